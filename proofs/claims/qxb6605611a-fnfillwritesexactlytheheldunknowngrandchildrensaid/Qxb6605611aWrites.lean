import Derived.Test.Qxb6605611aFillW
import Derived.Test.Qxb6605611aRefuse
namespace Go.Proofs.Qxb6605611a
set_option linter.unusedSimpArgs false
set_option linter.unusedVariables false
open Go.ChangeShapes Go.WideShapes Go.ChangeAt Go.RowKit Go.Sort

theorem range_low {base ob k : Nat} {W wr : World} {cs : List Value} (hk : KeptF base ob W wr) (hlt : k < base) (h : W.rangeAt k 0 cs) : wr.rangeAt k 0 cs := fun j v hv => by
  rw [World.cell?_of_block (hk.low k hlt)]
  exact h j v hv
theorem below_keptF {base ob : Nat} {w W wr : World} (h : Below base w W) (hk : KeptF base ob W wr) : Below base w wr :=
  ⟨hk.os.trans h.os, hk.tape.trans h.tape, hk.output.trans h.output, Nat.le_trans h.size hk.size, fun k hkb => (hk.low k hkb).trans (h.block k hkb)⟩

set_option maxHeartbeats 8000000 in
set_option maxRecDepth 100000 in
theorem writes (via : ByteArray) (vr : Bool) (H : Nat → Int) (a : Option Addr) (cap : Nat) (ps : List PG) (w : World) (hv : via.size ≤ 9223372036854775807) (hl : ps.length ≤ 9223372036854775807) (hrow : GRow w a ps) (hnil : a = none → cap = 0 ∧ ps = []) :
    Calls Try.prog 6 #[.string via, .bool vr, .agg (idc H), .slice a ps.length cap] w (TruePost w) := by
  have HR := hide hrow
  have HNIL := hide hnil
  clear hrow hnil
  by_cases b0 : 262144 < via.size
  · go_enter Try.func6, Try.ntmps6
    go_wp2_with (go_at_call 18; refine (zzBytes18 via vr H a cap ps _ hv hl (HR.out.later (by go_grown))).mono ?_; rintro e w1 ⟨⟨r, rfl⟩, rfl⟩; cases r)
    all_goals (go_ret; exact ⟨rfl, by go_grown⟩)
  by_cases b1 : 65536 < ps.length
  · go_enter Try.func6, Try.ntmps6
    go_wp2_with (go_at_call 18; refine (zzBytes18 via vr H a cap ps _ hv hl (HR.out.later (by go_grown))).mono ?_; rintro e w1 ⟨⟨r, rfl⟩, rfl⟩; cases r)
    all_goals (go_ret; exact ⟨rfl, by go_grown⟩)
  go_enter Try.func6, Try.ntmps6
  go_wp2_with (go_at_call 18; refine (zzBytes18 via vr H a cap ps _ hv hl (HR.out.later (by go_grown))).mono ?_; rintro e w1 ⟨⟨r, rfl⟩, rfl⟩; cases r)
  · go_ret
    exact ⟨rfl, by go_grown⟩
  generalize hWe : (w.alloc _).alloc _ = W
  obtain ⟨hsW, hg0, _, hbW⟩ := two_alloc hWe
  clear hWe
  have HG0 := hide (range_of_block (cs := il H) hg0)
  have HBW := hide hbW
  clear hg0 hbW
  go_wp2_with (go_at_call 19; refine (fillFits via a cap ps W (by omega) (by omega) (HR.out.later HBW.out)).mono ?_; rintro e w1 ⟨⟨r, rfl, hr⟩, m, rfl⟩; cases r)
  · go_ret
    exact ⟨rfl, below_drewN HBW.out _⟩
  have HSH := hide (hr (by simp))
  clear hr
  have HB1 := hide (below_drewN (Below.refl W.heap.size W) m)
  generalize W.drewN m = w1 at HB1 ⊢
  go_wp2_with (go_at_call 20; refine (fillCloneGrands a cap ps w1 (by omega) ((HR.out.later HBW.out).later HB1.out) HSH.out HNIL.out).mono ?_; rintro e w2 ⟨a2, c2, rfl, hR2, hB2⟩)
  have HR2 := hide hR2
  have HB2 := hide (HB1.out.trans (hB2.mono HB1.out.size))
  clear hR2 hB2
  go_wp2_with (go_at_call 21; refine (fillBuildW a2 c2 ps w2 (by omega) HR2.out HSH.out).mono ?_; rintro e w3 ⟨cb, sb, rfl, hcb, hsb, hO3, hB3⟩)
  obtain ⟨es3, hrow3⟩ := RowR.of_onward hO3 (fun p hp => by have := HSH.out p hp; unfold maxLen; omega)
  have HRow3 := hide hrow3
  have HB3 := hide hB3
  have HCB3 := hide hcb
  clear hrow3 hB3 hcb hsb hO3
  have r6 := rangeAt_later (rangeAt_later HG0.out HB2.out) HB3.out
  have u46 := Try.underlying46
  have z46 : (Try.prog.info? 46).map (·.size) = some (il H).length := size46
  have l46 : (il H).length = 16 := rfl
  have o46 := il_one H
  have hcbl : cb < w3.heap.size := (Array.getElem?_eq_some_iff.1 HCB3.out).1
  have hcbo : cb ≠ w2.heap.size := fun q => by have h1 := HCB3.out; rw [q, HRow3.out.row] at h1; simp at h1
  have hBs : w.heap.size < w2.heap.size := by have := HB2.out.size; omega
  go_region_held3 (fun w' => w'.rangeAt w.heap.size 0 (il H)) (first | exact r6 | exact S1 | exact S2)
    (first
      | (go_at_call 23; refine (fillViaW via vr _).mono ?_; rintro e w4 ⟨pb, rfl, hvp, hb4d⟩; have hb4 : Below w3.heap.size w3 w4 := ⟨hb4d.os, hb4d.tape, hb4d.output, hb4d.size, hb4d.block⟩; have S1 := rangeAt_later r6 hb4)
      | (go_at_call 22; refine (fillDone cb sb w2.heap.size w2.heap.size pb via vr H ps w4 (by omega) (by have := HB3.out.size; have := hb4.size; omega) ((hb4.block cb hcbl).trans HCB3.out) hvp es3 (HRow3.out.later hb4)).mono ?_; rintro e w5 ⟨rfl, hrow5, hk5⟩; have S2 := range_low hk5 hBs S1))
  obtain ⟨es5, hrow5⟩ := hrow5
  have HB5 : Hid (Below w2.heap.size w2 w5) := below_keptF (HB3.out.trans (hb4.mono HB3.out.size)) hk5
  have HR5 := hide (HR2.out.later HB5.out)
  have HO5 := hide hrow5
  have HC5 : Hid (w5.cell? ⟨cb, 2, none⟩ = some (.slice (some ⟨w2.heap.size, 0, none⟩) ps.length ps.length)) := by
    show _ = _
    rw [cell_of_row _ _ _ _ _ _ (hk5.cell ((hb4.block cb hcbl).trans HCB3.out) (by decide) hcbo)]
    rfl
  have HG5 := hide S2
  clear hb4 hb4d hvp S1 S2 r6 HB3 HRow3 HCB3 HB1 hrow5 hk5
  go_wp2_with (go_at_call 25; refine (zzOnward cb _ _ HC5.out rfl).mono ?_; rintro e w7 ⟨rfl, rfl⟩)
  have HZ := hide (Below.refl w7.heap.size w7)
  go_loopw [54] (fun i wr => ∃ n : Nat, n ≤ ps.length ∧ i = .int .i64 n ∧ Hid (Below w7.heap.size w7 wr)) (fun i _ => ps.length - (intOf i).toNat)
  case atStart => exact ⟨0, Nat.zero_le _, rfl, HZ⟩
  case round =>
    obtain ⟨n, hn, rfl, HB⟩ := hrel
    by_cases hlt : n < ps.length
    · obtain ⟨b, o, f, hx, hrg, hFm, hs⟩ := (HR5.out.later HB.out).at hlt
      subst hx
      obtain ⟨fa, fc, hfs⟩ := hFm.shape
      subst hfs
      have hmq : (ps.map (fillP via vr H))[n]? = some (fillP via vr H ps[n]) := by simp [hlt]
      have hel : n < es5.length := by rw [HO5.out.len]; simpa using hlt
      obtain ⟨e2, hee⟩ : ∃ e, es5[n]? = some e := ⟨es5[n], List.getElem?_eq_getElem hel⟩
      obtain ⟨hrg2, _, hof2⟩ := (HO5.out.later HB.out).at hmq hee
      have hfz := HSH.out ps[n] (List.getElem_mem hlt)
      have h1 := hof2.one
      have R6 := hide (rangeAt_later HG5.out HB.out)
      cases hq : heldP via vr H ps[n] with
      | true =>
        have hF : fillP via vr H ps[n] = filled ps[n] := by simp [fillP, hq]
        rw [hF] at hrg2 hof2
        have RG2 : Hid (wr.rangeAt w2.heap.size (n * 22) (ol ps[n].nm (some ⟨e2.1, 0, none⟩) ps[n].sr ps[n].X true e2.2)) := hrg2
        have HF1 : Hid (FormIs wr e2.2 false (gbz ps[n].X)) := hof2.is
        have HQ := hide hq
        have HRG := hide hrg
        clear hrg hrg2 hof2 hFm hs hq hF
        go_wp2_with (first
          | ((with_reducible show wpList _ _ _ ({ dst := some 60, op := Op.load 66 (Operand.tmp 59), type := _, pos := _, after := _, guard := _ } :: _) _ _); refine wpList_load_mid rfl 66 _ rfl w2.heap.size (n * 22) rfl _ _ RG2.out Try.underlying66 rfl size66 ?_)
          | (go_at_call 26; refine (zzKnown _ _ _ _ _ _ h1 _).mono ?_; rintro e wA ⟨rfl, hbA⟩; have RGA := hide (rangeAt_later RG2.out hbA))
          | ((with_reducible show wpList _ _ _ ({ dst := some 65, op := Op.load 66 (Operand.tmp 64), type := _, pos := _, after := _, guard := _ } :: _) _ _); refine wpList_load_mid rfl 66 _ rfl w2.heap.size (n * 22) rfl _ _ RGA.out Try.underlying66 rfl size66 ?_)
          | (go_at_call 27; refine (zzForm _ _ _ _ _ _ h1 _).mono ?_; rintro e wB ⟨rfl, hbB⟩; have hbAB := hbA.trans (hbB.mono hbA.size)))
        have R6B := hide (rangeAt_later R6.out hbAB)
        have RGB := hide (rangeAt_later HRG.out hbAB)
        refine wp_region_quiet_below (by kernel_rfl) (by kernel_rfl) ?_
        repeat (first
          | ((with_reducible show wpQuiet _ _ _ _ ({ dst := some 69, op := Op.load 46 (Operand.tmp 6), type := _, pos := _, after := _, guard := _ } :: _) _); refine wpQuiet_load_mid rfl 46 _ rfl w.heap.size 0 rfl _ _ (range_regrown R6B.out) Try.underlying46 rfl size46 ?_; simp only [Act.put, List.setIfInBounds_toArray, List.set_cons_succ, List.set_cons_zero])
          | ((with_reducible show wpQuiet _ _ _ _ ({ dst := some 73, op := Op.load 70 (Operand.tmp 72), type := _, pos := _, after := _, guard := _ } :: _) _); refine wpQuiet_load_mid rfl 70 _ rfl b (o + n * 21) rfl _ _ (range_regrown RGB.out) Try.underlying70 rfl size70 ?_; simp only [Act.put, List.setIfInBounds_toArray, List.set_cons_succ, List.set_cons_zero])
          | go_big_quiet_step ((go_at_call 28; exact Calls.regrown_of (held_at via vr H ps[n] _ HQ.out (.slice fa ps[n].fz.length fc) _))))
        refine wpQuiet_nil ?_
        intro _ hw'
        obtain ⟨⟨dq, osq⟩, hw''⟩ := hw'
        subst hw''
        have hbC := hbAB.trans ((below_regrown wB dq osq).mono hbAB.size)
        generalize grow (redrawn wB dq) osq = wC at hbC ⊢
        have d3 := cell_later hbC (HRG.out 3 _ rfl)
        have d4 := cell_later hbC (HRG.out 4 _ rfl)
        have d5 := cell_later hbC (HRG.out 5 _ rfl)
        have d6 := cell_later hbC (HRG.out 6 _ rfl)
        have d7 := cell_later hbC (HRG.out 7 _ rfl)
        have d8 := cell_later hbC (HRG.out 8 _ rfl)
        have d9 := cell_later hbC (HRG.out 9 _ rfl)
        have d10 := cell_later hbC (HRG.out 10 _ rfl)
        have d11 := cell_later hbC (HRG.out 11 _ rfl)
        have d12 := cell_later hbC (HRG.out 12 _ rfl)
        have d13 := cell_later hbC (HRG.out 13 _ rfl)
        have d14 := cell_later hbC (HRG.out 14 _ rfl)
        have d15 := cell_later hbC (HRG.out 15 _ rfl)
        have d16 := cell_later hbC (HRG.out 16 _ rfl)
        have d17 := cell_later hbC (HRG.out 17 _ rfl)
        have d18 := cell_later hbC (HRG.out 18 _ rfl)
        go_wp2_with (first
          | (go_at_call 30; refine (grandBytes ps[n].X _).mono ?_; rintro e wD ⟨vD, rfl, hfD, hbD⟩)
          | (go_at_call 29; refine (sameBytes_same _ _ false (gbz ps[n].X) _ (by rw [gbz_length]; omega) ((HF1.out.later hbC).later hbD) hfD).mono ?_; rintro e wE ⟨rfl, hbE⟩))
        go_roundw
        case rel => exact ⟨n + 1, hlt, by go_num, HB.out.trans ((hbC.trans ((hbD.trans (hbE.mono hbD.size)).mono hbC.size)).mono HB.out.size)⟩
        case measure => simp [intOf]; omega
      | false =>
        have hF : fillP via vr H ps[n] = ps[n] := by simp [fillP, hq]
        rw [hF] at hrg2 hof2
        have HF1 := hide hof2.is
        have HF2 := hide hFm
        have HQ := hide hq
        have k19 := hrg 19 _ rfl
        have k20 := hrg 20 _ rfl
        have HRG := hide hrg
        clear hrg hof2 hFm hs hq hF
        cases hkn : ps[n].kn
        all_goals
          rw [hkn] at k19 hrg2
          have HKN := hide hkn
          clear hkn
          have RG2 := hide hrg2
          clear hrg2
          go_wp2_with (first
            | ((with_reducible show wpList _ _ _ ({ dst := some 60, op := Op.load 66 (Operand.tmp 59), type := _, pos := _, after := _, guard := _ } :: _) _ _); refine wpList_load_mid rfl 66 _ rfl w2.heap.size (n * 22) rfl _ _ RG2.out Try.underlying66 rfl size66 ?_)
            | (go_at_call 26; refine (zzKnown _ _ _ _ _ _ h1 _).mono ?_; rintro e wA ⟨rfl, hbA⟩; have RGA := hide (rangeAt_later RG2.out hbA))
            | ((with_reducible show wpList _ _ _ ({ dst := some 65, op := Op.load 66 (Operand.tmp 64), type := _, pos := _, after := _, guard := _ } :: _) _ _); refine wpList_load_mid rfl 66 _ rfl w2.heap.size (n * 22) rfl _ _ RGA.out Try.underlying66 rfl size66 ?_)
            | (go_at_call 27; refine (zzForm _ _ _ _ _ _ h1 _).mono ?_; rintro e wB ⟨rfl, hbB⟩; have hbAB := hbA.trans (hbB.mono hbA.size)))
          have R6B := hide (rangeAt_later R6.out hbAB)
          have RGB := hide (rangeAt_later HRG.out hbAB)
          refine wp_region_quiet_below (by kernel_rfl) (by kernel_rfl) ?_
          repeat (first
            | ((with_reducible show wpQuiet _ _ _ _ ({ dst := some 69, op := Op.load 46 (Operand.tmp 6), type := _, pos := _, after := _, guard := _ } :: _) _); refine wpQuiet_load_mid rfl 46 _ rfl w.heap.size 0 rfl _ _ (range_regrown R6B.out) Try.underlying46 rfl size46 ?_; simp only [Act.put, List.setIfInBounds_toArray, List.set_cons_succ, List.set_cons_zero])
            | ((with_reducible show wpQuiet _ _ _ _ ({ dst := some 73, op := Op.load 70 (Operand.tmp 72), type := _, pos := _, after := _, guard := _ } :: _) _); refine wpQuiet_load_mid rfl 70 _ rfl b (o + n * 21) rfl _ _ (range_regrown RGB.out) Try.underlying70 rfl size70 ?_; simp only [Act.put, List.setIfInBounds_toArray, List.set_cons_succ, List.set_cons_zero])
            | go_big_quiet_step ((go_at_call 28; exact Calls.regrown_of (held_at via vr H ps[n] _ HQ.out (.slice fa ps[n].fz.length fc) _))))
          refine wpQuiet_nil ?_
          intro _ hw'
          obtain ⟨⟨dq, osq⟩, hw''⟩ := hw'
          subst hw''
          have hbC := hbAB.trans ((below_regrown wB dq osq).mono hbAB.size)
          generalize grow (redrawn wB dq) osq = wC at hbC ⊢
          have m19 := cell_later hbC k19
          have m20 := cell_later hbC k20
          go_wp2_with (go_at_call 29; refine (sameBytes_same _ _ ps[n].nil ps[n].fz _ hfz (HF1.out.later hbC) (HF2.out.later hbC)).mono ?_; rintro e wE ⟨rfl, hbE⟩)
          go_roundw
          case rel => exact ⟨n + 1, hlt, by go_num, HB.out.trans ((hbC.trans (hbE.mono hbC.size)).mono HB.out.size)⟩
          case measure => simp [intOf]; omega
    · go_wp2
      go_ret
      exact ⟨rfl, HBW.out.trans ((HB2.out.trans ((HB5.out.trans (HB.out.mono HB5.out.size)).mono HB2.out.size)).mono HBW.out.size)⟩

end Go.Proofs.Qxb6605611a
