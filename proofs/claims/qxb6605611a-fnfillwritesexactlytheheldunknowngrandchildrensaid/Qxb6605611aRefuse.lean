import Derived.Test.Qxb6605611aFillF
import Derived.Test.Qxb6605611aZz
namespace Go.Proofs.Qxb6605611a
set_option linter.unusedSimpArgs false
set_option linter.unusedVariables false
open Go.ChangeShapes Go.WideShapes Go.ChangeAt Go.RowKit Go.Sort

theorem any_succ {q : PG → Bool} {ps : List PG} {n : Nat} (hn : n < ps.length) : (ps.take (n + 1)).any q = ((ps.take n).any q || q ps[n]) := by
  rw [List.take_succ_eq_append_getElem hn, List.any_append]
  simp
theorem held_at (via : ByteArray) (vr : Bool) (H : Nat → Int) (p : PG) (q : Bool) (hq : heldP via vr H p = q) (f : Value) (w : World) :
    Calls Try.prog 28 #[.string via, .bool vr, .agg (idc H), .agg (gc p.nm p.sn p.sr p.X p.kn f)] w fun e w' => e = .returned (.bool q) ∧ Below w.heap.size w w' :=
  (held1 via vr H p.X p.nm p.sn p.sr p.kn f w).mono fun e w' h => ⟨by rw [h.1, ← hq]; rfl, h.2⟩
def TruePost (w : World) (e : Ending) (w' : World) : Prop := e = .returned (.bool true) ∧ Below w.heap.size w w'

set_option maxHeartbeats 8000000 in
set_option maxRecDepth 100000 in
theorem refusal (via : ByteArray) (vr : Bool) (H : Nat → Int) (a : Option Addr) (cap : Nat) (ps : List PG) (w : World) (hv : via.size ≤ 9223372036854775807) (hl : ps.length ≤ 9223372036854775807) (hrow : GRow w a ps) (hnil : a = none → cap = 0 ∧ ps = []) :
    Calls Try.prog 7 #[.string via, .bool vr, .agg (idc H), .slice a ps.length cap] w (TruePost w) := by
  have HR := hide hrow
  have HNIL := hide hnil
  clear hrow hnil
  by_cases b0 : 262144 < via.size
  · go_enter Try.func7, Try.ntmps7
    go_wp2_with (go_at_call 31; refine (zzBytes31 via vr H a cap ps _ hv hl (HR.out.later (by go_grown))).mono ?_; rintro e w1 ⟨⟨r, rfl⟩, rfl⟩; cases r)
    all_goals (go_ret; exact ⟨rfl, by go_grown⟩)
  by_cases b1 : 65536 < ps.length
  · go_enter Try.func7, Try.ntmps7
    go_wp2_with (go_at_call 31; refine (zzBytes31 via vr H a cap ps _ hv hl (HR.out.later (by go_grown))).mono ?_; rintro e w1 ⟨⟨r, rfl⟩, rfl⟩; cases r)
    all_goals (go_ret; exact ⟨rfl, by go_grown⟩)
  go_enter Try.func7, Try.ntmps7
  go_wp2_with (go_at_call 31; refine (zzBytes31 via vr H a cap ps _ hv hl (HR.out.later (by go_grown))).mono ?_; rintro e w1 ⟨⟨r, rfl⟩, rfl⟩; cases r)
  · go_ret
    exact ⟨rfl, by go_grown⟩
  generalize hWe : (w.alloc _).alloc _ = W
  obtain ⟨hsW, hg0, _, hbW⟩ := two_alloc hWe
  clear hWe
  have HG0 := hide (range_of_block (cs := il H) hg0)
  have HBW := hide hbW
  clear hg0 hbW
  go_wp2_with (go_at_call 19; refine (fillFits via a cap ps W (by omega) (by omega) (HR.out.later HBW.out)).mono ?_; rintro e w1 ⟨⟨r, rfl, hr⟩, m, rfl⟩; cases r)
  · go_ret
    exact ⟨rfl, below_drewN HBW.out _⟩
  have HSH := hide (hr (by simp))
  clear hr
  have HB1 := hide (below_drewN (Below.refl W.heap.size W) m)
  generalize W.drewN m = w1 at HB1 ⊢
  go_wp2_with (go_at_call 20; refine (fillCloneGrands a cap ps w1 (by omega) ((HR.out.later HBW.out).later HB1.out) HSH.out HNIL.out).mono ?_; rintro e w2 ⟨a2, c2, rfl, hR2, hB2⟩)
  have HR2 := hide hR2
  have HB2 := hide (HB1.out.trans (hB2.mono HB1.out.size))
  clear hR2 hB2
  go_wp2_with (go_at_call 21; refine (fillBuild a2 c2 ps w2 (by omega) HR2.out HSH.out).mono ?_; rintro e w3 ⟨cb, ob, sb, rfl, hcb, hsb, hO3, hB3⟩)
  have HB3 := hide (HB2.out.trans (hB3.mono HB2.out.size))
  have HR3 := hide (HR2.out.later hB3)
  have c2 : w3.cell? ⟨cb, 2, none⟩ = some (.slice (some ⟨ob, 0, none⟩) ps.length ps.length) := by rw [cell_of_row _ _ _ _ _ _ hcb]; rfl
  have HC2 := hide c2
  have HO3 := hide hO3
  clear hcb hsb hO3 hB3 c2
  have r6 := rangeAt_later HG0.out HB3.out
  have u46 := Try.underlying46
  have z46 : (Try.prog.info? 46).map (·.size) = some (il H).length := size46
  have l46 : (il H).length = 16 := rfl
  have o46 := il_one H
  go_region_held3 (fun w' => w'.rangeAt w.heap.size 0 (il H)) (first | exact r6 | exact S1 | exact S2)
    (first
      | (go_at_call 23; refine (fillVia via vr _).mono ?_; rintro e w4 ⟨pb, rfl, hvp, hb4d⟩; have hb4 : Below w3.heap.size w3 w4 := ⟨hb4d.os, hb4d.tape, hb4d.output, hb4d.size, hb4d.block⟩; have S1 := rangeAt_later r6 hb4)
      | (go_at_call 22; refine (fillFail cb ob w2.heap.size pb via vr H ps w4 (by omega) (cell_later hb4 HC2.out) hvp (HO3.out.later hb4)).mono ?_; rintro e w5 ⟨er, rfl, hor, hb5⟩; have S2 := rangeAt_later S1 hb5))
  have HB5 := hide (HB3.out.trans ((hb4.trans (hb5.mono hb4.size)).mono HB3.out.size))
  have HR5 := hide ((HR3.out.later hb4).later hb5)
  have HO5 := hide ((HO3.out.later hb4).later hb5)
  have HC5 := hide (cell_later hb5 (cell_later hb4 HC2.out))
  have HG5 := hide S2
  have HOR := hide hor
  clear hb4 hb4d hb5 hvp S1 S2 r6 HB3 HR3 HO3 HC2 HB2 HR2 HB1 hor
  go_wp2
  have HZ := hide (Below.refl w5.heap.size w5)
  go_loopw [11, 45] (fun h i wr => ∃ n : Nat, n ≤ ps.length ∧ i = .int .i64 n ∧ h = .bool ((ps.take n).any (heldP via vr H)) ∧ Hid (Below w5.heap.size w5 wr)) (fun _ i _ => ps.length - (intOf i).toNat)
  case atStart => exact ⟨0, Nat.zero_le _, rfl, rfl, HZ⟩
  case round =>
    obtain ⟨n, hn, rfl, rfl, HB⟩ := hrel
    by_cases hlt : n < ps.length
    · obtain ⟨b, o, f, hx, hrg, hFm, hs⟩ := (HR5.out.later HB.out).at hlt
      subst hx
      obtain ⟨fa, fc, hfs⟩ := hFm.shape
      subst hfs
      have RG := hide hrg
      have R6 := hide (rangeAt_later HG5.out HB.out)
      clear hrg hFm hs
      cases hq : heldP via vr H ps[n] with
      | false =>
        have HQ := hide hq
        clear hq
        go_wp2
        refine wp_region_quiet_below (by kernel_rfl) (by kernel_rfl) ?_
        repeat (first
          | ((with_reducible show wpQuiet _ _ _ _ ({ dst := some 50, op := Op.load 46 (Operand.tmp 6), type := _, pos := _, after := _, guard := _ } :: _) _); refine wpQuiet_load_mid rfl 46 _ rfl w.heap.size 0 rfl _ _ (range_regrown R6.out) Try.underlying46 rfl size46 ?_; simp only [Act.put, List.setIfInBounds_toArray, List.set_cons_succ, List.set_cons_zero])
          | ((with_reducible show wpQuiet _ _ _ _ ({ dst := some 54, op := Op.load 70 (Operand.tmp 53), type := _, pos := _, after := _, guard := _ } :: _) _); refine wpQuiet_load_mid rfl 70 _ rfl b (o + n * 21) rfl _ _ (range_regrown RG.out) Try.underlying70 rfl size70 ?_; simp only [Act.put, List.setIfInBounds_toArray, List.set_cons_succ, List.set_cons_zero])
          | go_big_quiet_step ((go_at_call 28; exact Calls.regrown_of (held_at via vr H ps[n] _ HQ.out (.slice fa ps[n].fz.length fc) _))))
        refine wpQuiet_nil ?_
        intro _ hw'
        obtain ⟨⟨dq, osq⟩, hw''⟩ := hw'
        subst hw''
        go_wp2
        go_roundw
        case rel => exact ⟨n + 1, hlt, by go_num, by rw [any_succ hlt, HQ.out]; simp, HB.out.trans ((below_regrown _ _ _).mono HB.out.size)⟩
        case measure => simp [intOf]; omega
      | true =>
        have HQ := hide hq
        clear hq
        go_wp2
        refine wp_region_quiet_below (by kernel_rfl) (by kernel_rfl) ?_
        repeat (first
          | ((with_reducible show wpQuiet _ _ _ _ ({ dst := some 50, op := Op.load 46 (Operand.tmp 6), type := _, pos := _, after := _, guard := _ } :: _) _); refine wpQuiet_load_mid rfl 46 _ rfl w.heap.size 0 rfl _ _ (range_regrown R6.out) Try.underlying46 rfl size46 ?_; simp only [Act.put, List.setIfInBounds_toArray, List.set_cons_succ, List.set_cons_zero])
          | ((with_reducible show wpQuiet _ _ _ _ ({ dst := some 54, op := Op.load 70 (Operand.tmp 53), type := _, pos := _, after := _, guard := _ } :: _) _); refine wpQuiet_load_mid rfl 70 _ rfl b (o + n * 21) rfl _ _ (range_regrown RG.out) Try.underlying70 rfl size70 ?_; simp only [Act.put, List.setIfInBounds_toArray, List.set_cons_succ, List.set_cons_zero])
          | go_big_quiet_step ((go_at_call 28; exact Calls.regrown_of (held_at via vr H ps[n] _ HQ.out (.slice fa ps[n].fz.length fc) _))))
        refine wpQuiet_nil ?_
        intro _ hw'
        obtain ⟨⟨dq, osq⟩, hw''⟩ := hw'
        subst hw''
        go_wp2
        go_roundw
        case rel => exact ⟨n + 1, hlt, by go_num, by rw [any_succ hlt, HQ.out]; simp, HB.out.trans ((below_regrown _ _ _).mono HB.out.size)⟩
        case measure => simp [intOf]; omega
    · rw [List.take_of_length_le (by omega)]
      rcases HOR.out with ⟨hA, pA, rfl⟩ | ⟨hA, rfl⟩
      · rw [hA]
        go_wp2_with (go_at_call 25; refine (zzOnward cb _ _ (cell_later HB.out HC5.out) rfl).mono ?_; rintro e w7 ⟨rfl, rfl⟩)
        go_loopw [70] (fun i wr => ∃ n : Nat, n ≤ ps.length ∧ i = .int .i64 n ∧ Hid (Below w5.heap.size w5 wr)) (fun i _ => ps.length - (intOf i).toNat)
        case atStart => exact ⟨0, Nat.zero_le _, rfl, HB⟩
        case round =>
          clear HB hlt hn
          obtain ⟨n, hn, rfl, HB⟩ := hrel
          by_cases hlt : n < ps.length
          · obtain ⟨b, o, f, hx, hrg, hFm, hs⟩ := (HR5.out.later HB.out).at hlt
            obtain ⟨pb2, f2, hrg2, hpb2, hof2⟩ := (HO5.out.later HB.out).at hlt
            subst hx
            obtain ⟨fa, fc, hfs⟩ := hFm.shape
            subst hfs
            have k19 := hrg 19 _ rfl
            have k20 := hrg 20 _ rfl
            have hbl := World.block_lt_of_cell? _ _ k19
            have hfz := HSH.out ps[n] (List.getElem_mem hlt)
            have h1 := hof2.one
            have HF1 := hide hof2.is
            have HF2 := hide hFm
            clear hrg hFm hs hpb2 hof2
            have kg := cell_grow
            cases hkn : ps[n].kn
            all_goals
              rw [hkn] at k19 hrg2
              have RG2 := hide hrg2
              clear hrg2
              go_wp2
              refine wp_region_quiet_below (by kernel_rfl) (by kernel_rfl) ?_
              repeat (first
                | ((with_reducible show wpQuiet _ _ _ _ ({ dst := some 76, op := Op.load 66 (Operand.tmp 75), type := _, pos := _, after := _, guard := _ } :: _) _); refine wpQuiet_load_mid rfl 66 _ rfl ob (n * 22) rfl _ _ (range_regrown RG2.out) Try.underlying66 rfl size66 ?_; simp only [Act.put, List.setIfInBounds_toArray, List.set_cons_succ, List.set_cons_zero])
                | ((with_reducible show wpQuiet _ _ _ _ ({ dst := some 88, op := Op.load 66 (Operand.tmp 87), type := _, pos := _, after := _, guard := _ } :: _) _); refine wpQuiet_load_mid rfl 66 _ rfl ob (n * 22) rfl _ _ (range_regrown RG2.out) Try.underlying66 rfl size66 ?_; simp only [Act.put, List.setIfInBounds_toArray, List.set_cons_succ, List.set_cons_zero])
                | go_big_quiet_step ((first
                    | (go_at_call 26; exact Calls.regrown_of (zzKnown _ _ _ _ _ _ h1 _))
                    | (go_at_call 27; exact Calls.regrown_of (zzForm _ _ _ _ _ _ h1 _))
                    | (go_at_call 29; exact Calls.regrown_of (sameBytes_same _ _ ps[n].nil ps[n].fz _ hfz (HF1.out.later (below_regrown _ _ _)) (HF2.out.later (below_regrown _ _ _)))))))
              refine wpQuiet_nil ?_
              intro _ hw'
              obtain ⟨⟨dq, osq⟩, hw''⟩ := hw'
              subst hw''
              go_wp2
              go_roundw
              case rel => exact ⟨n + 1, hlt, by go_num, HB.out.trans ((below_regrown _ _ _).mono HB.out.size)⟩
              case measure => simp [intOf]; omega
          · go_wp2
            go_ret
            exact ⟨rfl, HBW.out.trans ((HB5.out.trans (HB.out.mono HB5.out.size)).mono HBW.out.size)⟩
      · rw [hA]
        go_wp2_with (go_at_call 25; refine (zzOnward cb _ _ (cell_later HB.out HC5.out) rfl).mono ?_; rintro e w7 ⟨rfl, rfl⟩)
        go_loopw [70] (fun i wr => ∃ n : Nat, n ≤ ps.length ∧ i = .int .i64 n ∧ Hid (Below w5.heap.size w5 wr)) (fun i _ => ps.length - (intOf i).toNat)
        case atStart => exact ⟨0, Nat.zero_le _, rfl, HB⟩
        case round =>
          clear HB hlt hn
          obtain ⟨n, hn, rfl, HB⟩ := hrel
          by_cases hlt : n < ps.length
          · obtain ⟨b, o, f, hx, hrg, hFm, hs⟩ := (HR5.out.later HB.out).at hlt
            obtain ⟨pb2, f2, hrg2, hpb2, hof2⟩ := (HO5.out.later HB.out).at hlt
            subst hx
            obtain ⟨fa, fc, hfs⟩ := hFm.shape
            subst hfs
            have k19 := hrg 19 _ rfl
            have k20 := hrg 20 _ rfl
            have hbl := World.block_lt_of_cell? _ _ k19
            have hfz := HSH.out ps[n] (List.getElem_mem hlt)
            have h1 := hof2.one
            have HF1 := hide hof2.is
            have HF2 := hide hFm
            clear hrg hFm hs hpb2 hof2
            have kg := cell_grow
            cases hkn : ps[n].kn
            all_goals
              rw [hkn] at k19 hrg2
              have RG2 := hide hrg2
              clear hrg2
              go_wp2
              refine wp_region_quiet_below (by kernel_rfl) (by kernel_rfl) ?_
              repeat (first
                | ((with_reducible show wpQuiet _ _ _ _ ({ dst := some 76, op := Op.load 66 (Operand.tmp 75), type := _, pos := _, after := _, guard := _ } :: _) _); refine wpQuiet_load_mid rfl 66 _ rfl ob (n * 22) rfl _ _ (range_regrown RG2.out) Try.underlying66 rfl size66 ?_; simp only [Act.put, List.setIfInBounds_toArray, List.set_cons_succ, List.set_cons_zero])
                | ((with_reducible show wpQuiet _ _ _ _ ({ dst := some 88, op := Op.load 66 (Operand.tmp 87), type := _, pos := _, after := _, guard := _ } :: _) _); refine wpQuiet_load_mid rfl 66 _ rfl ob (n * 22) rfl _ _ (range_regrown RG2.out) Try.underlying66 rfl size66 ?_; simp only [Act.put, List.setIfInBounds_toArray, List.set_cons_succ, List.set_cons_zero])
                | go_big_quiet_step ((first
                    | (go_at_call 26; exact Calls.regrown_of (zzKnown _ _ _ _ _ _ h1 _))
                    | (go_at_call 27; exact Calls.regrown_of (zzForm _ _ _ _ _ _ h1 _))
                    | (go_at_call 29; exact Calls.regrown_of (sameBytes_same _ _ ps[n].nil ps[n].fz _ hfz (HF1.out.later (below_regrown _ _ _)) (HF2.out.later (below_regrown _ _ _)))))))
              refine wpQuiet_nil ?_
              intro _ hw'
              obtain ⟨⟨dq, osq⟩, hw''⟩ := hw'
              subst hw''
              go_wp2
              go_roundw
              case rel => exact ⟨n + 1, hlt, by go_num, HB.out.trans ((below_regrown _ _ _).mono HB.out.size)⟩
              case measure => simp [intOf]; omega
          · go_wp2
            go_ret
            exact ⟨rfl, HBW.out.trans ((HB5.out.trans (HB.out.mono HB5.out.size)).mono HBW.out.size)⟩

end Go.Proofs.Qxb6605611a
