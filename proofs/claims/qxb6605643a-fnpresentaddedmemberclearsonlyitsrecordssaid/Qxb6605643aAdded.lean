import Derived.Test.Qxb6605643aScript
namespace Go.Proofs.Qxb6605643a
set_option linter.unusedSimpArgs false
set_option linter.unusedVariables false
open Go.ChangeShapes Go.WideShapes Go.ChangeAt Go.RowKit Go.Maps Go.WideMaps

/-! ### The plain laws -/
def keep (ex : ByteArray) (l : List (ByteArray × ByteArray)) : List (ByteArray × ByteArray) := l.filter fun q => !(q.2.toList == ex.toList)
theorem has_snoc (ss : List ByteArray) (ex k : ByteArray) : has (ss ++ [ex]) k = (has ss k || (ex.toList == k.toList)) := by simp [has]
theorem miss_snoc (ss : List ByteArray) (ex : ByteArray) (qs : List (ByteArray × ByteArray)) : miss (ss ++ [ex]) qs = keep ex (miss ss qs) := by
  unfold miss keep
  rw [List.filter_filter]
  congr 1
  funext q
  rw [has_snoc, show (ex.toList == q.2.toList) = (q.2.toList == ex.toList) from Bool.beq_comm]
  cases has ss q.2 <;> simp
theorem keep_step (ex : ByteArray) (l : List (ByteArray × ByteArray)) (n : Nat) (h : n < l.length) : keep ex (l.take (n + 1)) = if (l[n].2.toList == ex.toList) then keep ex (l.take n) else keep ex (l.take n) ++ [l[n]] := by
  unfold keep
  rw [List.take_succ_eq_append_getElem h, List.filter_append]
  cases hh : (l[n].2.toList == ex.toList) <;> simp [hh]
theorem keep_at (ex : ByteArray) (l : List (ByteArray × ByteArray)) (n : Nat) (h : n < l.length) (hh : (l[n].2.toList == ex.toList) = false) : (keep ex l)[(keep ex (l.take n)).length]? = some l[n] := by
  have e : l = l.take n ++ l[n] :: l.drop (n + 1) := by rw [List.getElem_cons_drop, List.take_append_drop]
  have : keep ex l = keep ex (l.take n) ++ l[n] :: keep ex (l.drop (n + 1)) := by
    conv => lhs; rw [e]
    unfold keep
    rw [List.filter_append, List.filter_cons]
    simp [hh]
  rw [this, List.getElem?_append_right (Nat.le_refl _), Nat.sub_self]
  rfl
theorem keep_le (ex : ByteArray) (l : List (ByteArray × ByteArray)) (n : Nat) : (keep ex (l.take n)).length ≤ l.length := by
  have h1 : (keep ex (l.take n)).length ≤ (l.take n).length := List.length_filter_le _ _
  have h2 := List.length_take_le' n l
  omega

/-! ### keys2 -/
/-- What an owned row of strings reads as. -/
theorem strRow_owned {w : World} {base g n cap : Nat} {ss : List ByteArray} (h : w.ownsRow base 9 1 (.slice (some ⟨g, 0, none⟩) n cap) n (ss.map Value.string)) (hs : ∀ s ∈ ss, s.size ≤ maxLen) (hl : ss.length = n) : StrRow w (some ⟨g, 0, none⟩) ss := fun i s hi => by
  refine ⟨g, 0, rfl, ?_, hs s (List.mem_of_getElem? hi)⟩
  have hil := (List.getElem?_eq_some_iff.1 hi).1
  rw [Nat.zero_add, h.cellAt i (by omega)]
  simp [hi]

/-! ### Two terms side by side -/
/-- The relation of the first loop on the world: two terms, each with its own row. -/
def Rel2 (ss : List ByteArray) (ex : ByteArray) (qs : List (ByteArray × ByteArray)) (wX : World) (n : Nat) (wr : World) : Prop :=
  ∃ v1 v2, TermsAt wr wX.heap.size (wX.heap.size + 2) v1 (miss ss (qs.take n)) ∧ TermsAt wr (wX.heap.size + 1) (wX.heap.size + 2) v2 (miss (ss ++ [ex]) (qs.take n)) ∧ (∀ g, some g = v1.ownBlock → some g ≠ v2.ownBlock) ∧ Below wX.heap.size wX wr

/-- What one call leaves of the other terms. -/
theorem TermsAt.beside {w w' : World} {tb tb' base : Nat} {v v' u : Value} {recs recs' : List (ByteArray × ByteArray)} (h : TermsAt w tb' base u recs') (hT : TermsAt w tb base v recs) (hk : Kept2 w w' tb v) (hne : tb' ≠ tb) (hap : ∀ g, some g = v.ownBlock → some g ≠ u.ownBlock) : TermsAt w' tb' base u recs' := by
  have hlt := World.block_lt_of_cell? _ _ h.cell
  have hb : w'.heap[tb']? = w.heap[tb']? := hk.block tb' hlt hne (fun e => by have := (hT.vblock _ e).1; have := h.lt; omega)
  refine ⟨(World.cell?_of_block (a := ⟨tb', 15, none⟩) hb).trans h.cell, (World.frozen?_of_block (a := ⟨tb', 15, none⟩) hb).trans h.open_, ?_, h.lt⟩
  refine ⟨h.owns.1, ?_⟩
  rcases h.owns.2 with hn | ⟨g, cap, cur, hu, hg, hh, r⟩
  · exact .inl hn
  · refine .inr ⟨g, cap, cur, hu, hg, ?_, r⟩
    have hgl : g < w.heap.size := (Array.getElem?_eq_some_iff.1 hh).1
    rw [hk.block g hgl (by have := hT.lt; omega) (fun e => hap g e (by rw [hu]; rfl))]
    exact hh

/-- Behind the first call. -/
theorem rel2_first {ss : List ByteArray} {ex : ByteArray} {qs : List (ByteArray × ByteArray)} {wX wr w6 : World} {n : Nat} {v1 v2 v1' : Value} {o : Obj} {r1 r2 r1' : List (ByteArray × ByteArray)}
    (hT1 : TermsAt wr wX.heap.size (wX.heap.size + 2) v1 r1) (hT2 : TermsAt wr (wX.heap.size + 1) (wX.heap.size + 2) v2 r2) (hap : ∀ g, some g = v1.ownBlock → some g ≠ v2.ownBlock) (hb : Below wX.heap.size wX wr)
    (hT1' : TermsAt w6 wX.heap.size (wX.heap.size + 2) v1' r1') (hk : Kept2 (wr.alloc o) w6 wX.heap.size v1) (hloc : v1'.ownBlock = v1.ownBlock ∨ ∃ g, v1'.ownBlock = some g ∧ (wr.alloc o).heap.size ≤ g) :
    TermsAt w6 (wX.heap.size + 1) (wX.heap.size + 2) v2 r2 ∧ (∀ g, some g = v1'.ownBlock → some g ≠ v2.ownBlock) ∧ Below wX.heap.size wX w6 ∧ w6.heap[wr.heap.size]? = some o ∧ wr.heap.size + 1 ≤ w6.heap.size := by
  have hal : Below wr.heap.size wr (wr.alloc o) := (Below.refl _ _).alloc (Nat.le_refl _) _
  have hT1a := hT1.later hal
  have hT2a := hT2.later hal
  have htb := World.block_lt_of_cell? _ _ hT1.cell
  have hsz : (wr.alloc o).heap.size = wr.heap.size + 1 := by simp
  refine ⟨hT2a.beside (v' := v1) hT1a hk (by omega) hap, ?_, (hb.alloc (by exact hb.size) o).trans (hk.below hT1a), ?_, by have := hk.size; omega⟩
  · intro g hg hg2
    rcases hloc with h | ⟨g', h, hge⟩
    · exact hap g (by rw [hg, h]) hg2
    · have := (hT2.vblock g hg2).2
      rw [h] at hg
      cases hg
      omega
  · rw [hk.block wr.heap.size (by omega) (by simp at htb; omega) (fun e => by have := (hT1.vblock _ e).2; omega)]
    exact heap_alloc_new wr o

/-- Behind the second. -/
theorem rel2_second {ss : List ByteArray} {ex : ByteArray} {qs : List (ByteArray × ByteArray)} {wX wr w6 w7 : World} {n : Nat} {v1' v2 v2' : Value} {o : Obj} {r1' r2 r2' : List (ByteArray × ByteArray)}
    (hT1 : TermsAt w6 wX.heap.size (wX.heap.size + 2) v1' r1') (hT2 : TermsAt w6 (wX.heap.size + 1) (wX.heap.size + 2) v2 r2) (hap : ∀ g, some g = v1'.ownBlock → some g ≠ v2.ownBlock) (hb : Below wX.heap.size wX w6)
    (hT2w : ∀ g, some g = v2.ownBlock → g < wr.heap.size) (hsz : wX.heap.size + 2 ≤ wr.heap.size) (hbox : w6.heap[wr.heap.size]? = some o)
    (hT2' : TermsAt w7 (wX.heap.size + 1) (wX.heap.size + 2) v2' r2') (hk : Kept2 w6 w7 (wX.heap.size + 1) v2) (hloc : v2'.ownBlock = v2.ownBlock ∨ ∃ g, v2'.ownBlock = some g ∧ w6.heap.size ≤ g) :
    TermsAt w7 wX.heap.size (wX.heap.size + 2) v1' r1' ∧ (∀ g, some g = v1'.ownBlock → some g ≠ v2'.ownBlock) ∧ Below wX.heap.size wX w7 ∧ w7.heap[wr.heap.size]? = some o := by
  have hlt : wr.heap.size < w6.heap.size := (Array.getElem?_eq_some_iff.1 hbox).1
  refine ⟨hT1.beside (v' := v2) hT2 hk (by omega) (fun g h1 h2 => hap g h2 h1), ?_, hb.trans ((hk.below hT2).mono (by omega)), ?_⟩
  · intro g hg hg2
    rcases hloc with h | ⟨g', h, hge⟩
    · exact hap g hg (by rw [hg2, h])
    · have := (hT1.vblock g hg).2
      rw [h] at hg2
      cases hg2
      omega
  · rw [hk.block wr.heap.size hlt (by omega) (fun e => by have := hT2w _ e; omega)]
    exact hbox

theorem rel2_start {ss : List ByteArray} {ex : ByteArray} {qs : List (ByteArray × ByteArray)} {wX wY wZ : World} (h1 : ∀ base, wX.heap.size < base → TermsAt wY wX.heap.size base (.slice none 0 0) []) (hs1 : wY.heap.size = wX.heap.size + 1) (hb1 : Below wX.heap.size wX wY)
    (h2 : ∀ base, wY.heap.size < base → TermsAt wZ wY.heap.size base (.slice none 0 0) []) (hb2 : Below wY.heap.size wY wZ) : Rel2 ss ex qs wX 0 wZ := by
  have e2 := h2 (wX.heap.size + 2) (by omega)
  rw [hs1] at e2
  exact ⟨_, _, (h1 _ (by omega)).later hb2, e2, (fun g h => by cases h), hb1.trans (hb2.mono (by omega))⟩

theorem zzObjectN (a1 a2 : Option Addr) (c1 c2 : Nat) (ss ts : List ByteArray) (L : Nat) (hL : ss.length = L) (w : World) (hl : L ≤ 1048576) (hl2 : ts.length ≤ 1048576) (h1 : StrRow w a1 ss) (h2 : StrRow w a2 ts) (hnil : a1 = none → ss = []) :
    Calls Try.prog 9 #[.slice a1 L c1, .slice a2 ts.length c2] w (MadeObj ss w) := by
  subst hL
  exact zzObject a1 a2 c1 c2 ss ts w hl hl2 h1 h2 hnil

set_option maxHeartbeats 4000000 in
set_option maxRecDepth 100000 in
theorem walk4 (a1 a2 a3 : Option Addr) (c1 c2 c3 : Nat) (ss ts : List ByteArray) (qs : List (ByteArray × ByteArray)) (ex : ByteArray) (w : World) (hl1 : ss.length ≤ 9223372036854775807) (hl2 : ts.length ≤ 9223372036854775807) (hl3 : qs.length ≤ 9223372036854775807) (hl4 : ex.size ≤ maxLen)
    (h1 : StrRow w a1 ss) (h2 : StrRow w a2 ts) (h3 : QRow w a3 qs) (n1 : a1 = none → c1 = 0 ∧ ss = []) (n2 : a2 = none → c2 = 0 ∧ ts = []) (n3 : a3 = none → c3 = 0 ∧ qs = []) :
    Calls Try.prog 4 #[.slice a1 ss.length c1, .slice a2 ts.length c2, .slice a3 qs.length c3, .string ex] w fun e w' => e = .returned (.bool true) ∧ Below w.heap.size w w' := by
  have HEX := hide hl4
  unfold maxLen at hl4
  obtain ⟨i9, hi9, hz0, hz1, hz2⟩ := info_parts Try.info9
  have H1 := hide h1
  have H2 := hide h2
  have H3 := hide h3
  have N1 := hide n1
  have N2 := hide n2
  have N3 := hide n3
  clear h1 h2 h3 n1 n2 n3
  go_enter Try.func4, Try.ntmps4
  go_wp2_with fail
  refine (zzBytes15 a1 a2 a3 c1 c2 c3 ss ts qs ex _ hl1 hl2 hl3 (by omega) H1.out H2.out H3.out).mono ?_
  rintro e w0 ⟨⟨b, rfl⟩, rfl⟩
  cases b
  · go_wp2
    go_ret
    exact ⟨rfl, Below.refl _ _⟩
  by_cases b1 : 4096 < ss.length
  · go_wp2
    go_ret
    exact ⟨rfl, Below.refl _ _⟩
  by_cases b2 : 4096 < ts.length
  · go_wp2
    go_ret
    exact ⟨rfl, Below.refl _ _⟩
  by_cases b3 : 4096 < qs.length
  · go_wp2
    go_ret
    exact ⟨rfl, Below.refl _ _⟩
  by_cases b5 : 1048576 < ex.size
  · go_wp2
    go_ret
    exact ⟨rfl, Below.refl _ _⟩
  go_wp2_with fail
  refine (zzScriptBytes a1 a2 a3 c1 c2 c3 ss ts qs _ _ (by omega) (by omega) (by omega) (by omega) H1.out H2.out H3.out).mono ?_
  rintro e wd ⟨⟨y, rfl⟩, nd, rfl⟩
  by_cases b4 : 1048576 < y
  · go_wp2
    go_ret
    exact ⟨rfl, below_drewN (Below.refl _ _) _⟩
  have hbd : Below w0.heap.size w0 (w0.drewN nd) := below_drewN (Below.refl _ _) _
  generalize w0.drewN nd = wA at hbd ⊢
  go_wp2_with fail
  refine (cloneStrings a1 c1 ss _ (by omega) (H1.out.later hbd) N1.out).mono ?_
  rintro e wB ⟨a1', c1', rfl, hn1, hr1, hb1⟩
  have hbB : Below w0.heap.size w0 wB := hbd.trans (hb1.mono hbd.size)
  go_wp2_with fail
  refine (cloneStrings a2 c2 ts _ (by omega) (H2.out.later hbB) N2.out).mono ?_
  rintro e wC ⟨a2', c2', rfl, hn2, hr2, hb2⟩
  have hbC : Below w0.heap.size w0 wC := hbB.trans (hb2.mono hbB.size)
  go_wp2_with fail
  refine (cloneQueries a3 c3 qs _ (by omega) (H3.out.later hbC) N3.out).mono ?_
  rintro e wD ⟨a3', c3', rfl, hr3, hb3⟩
  have hbD : Below w0.heap.size w0 wD := hbC.trans (hb3.mono hbC.size)
  have K1 := hide ((hr1.later hb2).later hb3)
  have K2 := hide (hr2.later hb3)
  have K3 := hide hr3
  have KS := hide hr1.sizes
  have M1 : Hid (a1' = none → ss = []) := fun h => (N1.out (hn1.1 h)).2
  clear hr1 hr2 hr3 hn1 hn2 H1 H2 H3 N1 N2 N3 hb1 hb2 hb3 hbB hbC hbd
  have HD := hide hbD
  clear hbD
  go_wp2_with (at_make; refine wpList_make_own _ rfl _ _ 22 rfl wD.heap.size 9 i9 (.string ByteArray.empty) 1 Try.underlying22 hi9 hz0 hz1 _ _ _ (ss.length + 1) rfl rfl (by omega) (by rw [hz2]; omega) (by unfold maxLen; omega) (Nat.le_refl _) ?_; intro wM hownM hgrowM)
  have HO0 := hide hownM
  have HB0 : Hid (Below wD.heap.size wD wM) := (Below.refl _ _).grown hgrowM (Nat.le_refl _) (by simp)
  clear hownM hgrowM
  go_loopw [9, 10] (fun v i wr => ∃ n : Nat, n ≤ ss.length ∧ i = .int .i64 n ∧ v = .slice (some ⟨wD.heap.size, 0, none⟩) n (ss.length + 1) ∧ Hid (wr.ownsRow wD.heap.size 9 1 (.slice (some ⟨wD.heap.size, 0, none⟩) n (ss.length + 1)) n ((ss.take n).map Value.string)) ∧ Hid (Below wD.heap.size wD wr)) (fun _ i _ => ss.length - (intOf i).toNat)
  case atStart => exact ⟨0, Nat.zero_le _, rfl, rfl, by simpa using HO0, HB0⟩
  case round =>
    obtain ⟨n, hn, rfl, rfl, HO, HB⟩ := hrel
    have hszW := HB.out.size
    by_cases hlt : n < ss.length
    · obtain ⟨b, o, rfl, hcell, hsq⟩ := (K1.out.later HB.out).at hlt
      have HE : Hid ((ss.take n).map Value.string ++ [Value.string ss[n]] = (ss.take (n + 1)).map Value.string) := by
        show _ = _
        rw [List.take_succ_eq_append_getElem hlt, List.map_append]; rfl
      go_wp2_with (at_builtin; refine wpList_append_fits _ rfl _ _ 22 rfl wD.heap.size 9 i9 1 Try.underlying22 hi9 hz1 wD.heap.size n (ss.length + 1) _ rfl (HO.out.alloc _) ⟨wr.heap.size, 0, none⟩ 1 1 [.string ss[n]] rfl rfl (cell_one_new _ _ _) (by simp [Value.oneCell']) (by omega) ?_; intro w1 hown1 hgrow1; rw [HE.out] at hown1; have HO1 := hide hown1; have HB1 : Hid (Below wD.heap.size wD w1) := (HB.out.alloc hszW _).grown hgrow1 (by simp; omega) (fun j hj => by cases hj; exact Nat.le_refl _); clear hown1 hgrow1)
      go_roundw
      case rel => exact ⟨n + 1, by omega, by go_num, rfl, HO1, HB1⟩
      case measure => simp [intOf]; omega
    · obtain rfl : n = ss.length := by omega
      rw [List.take_length] at HO
      have HE : Hid (ss.map Value.string ++ [Value.string ex] = (ss ++ [ex]).map Value.string) := by
        show _ = _
        rw [List.map_append]; rfl
      go_wp2_with (at_builtin; refine wpList_append_fits _ rfl _ _ 22 rfl wD.heap.size 9 i9 1 Try.underlying22 hi9 hz1 wD.heap.size ss.length (ss.length + 1) _ rfl (HO.out.alloc _) ⟨wr.heap.size, 0, none⟩ 1 1 [.string ex] rfl rfl (cell_one_new _ _ _) (by simp [Value.oneCell']) (by omega) ?_; intro w1 hown1 hgrow1; rw [HE.out] at hown1; have HO1 := hide hown1; have HB1 : Hid (Below wD.heap.size wD w1) := (HB.out.alloc hszW _).grown hgrow1 (by simp; omega) (fun j hj => by cases hj; exact Nat.le_refl _); clear hown1 hgrow1)
      clear HO HB HE HO0 HB0 hi9 hz0 hz1 hz2 hszW
      have K4 := hide (strRow_owned (ss := ss ++ [ex]) HO1.out (fun s hs => by rcases List.mem_append.1 hs with h | h; exact KS.out s h; simp at h; rw [h]; exact HEX.out) (by simp))
      have K1 := hide (K1.out.later HB1.out)
      have K2 := hide (K2.out.later HB1.out)
      have K3 := hide (K3.out.later HB1.out)
      have HW : Hid (Below w0.heap.size w0 w1) := HD.out.trans (HB1.out.mono HD.out.size)
      clear HO1 HB1 HD
      go_wp2_with fail
      refine (zzObject a1' a2' c1' c2' ss ts _ (by omega) (by omega) K1.out K2.out M1.out).mono ?_
      rintro e wE ⟨m1, rfl, hm1, hb4⟩
      have HWE : Hid (Below w0.heap.size w0 wE) := HW.out.trans (hb4.mono HW.out.size)
      go_wp2_with fail
      refine (zzObjectN _ a2' _ c2' (ss ++ [ex]) ts _ (by simp) _ (by omega) (by omega) (K4.out.later hb4) (K2.out.later hb4) (by intro h; cases h)).mono ?_
      rintro e wX ⟨m2, rfl, hm2, hb5⟩
      have HWX : Hid (Below w0.heap.size w0 wX) := HWE.out.trans (hb5.mono HWE.out.size)
      have KM1 := hide (hm1.later hb5)
      have KM2 := hide hm2
      have K3 := hide ((K3.out.later hb4).later hb5)
      clear hm1 hm2 hb4 hb5 HW HWE K1 K2 K4
      go_wp2_with fail
      refine (newTerms _).mono ?_
      rintro e wY ⟨rfl, hs1, hT1, hbY⟩
      go_wp2_with fail
      refine (newTerms _).mono ?_
      rintro e wZ ⟨he, hs2, hT2, hbZ⟩
      rw [hs1] at he
      subst he
      have R0 := hide (rel2_start (ss := ss) (ex := ex) (qs := qs) hT1 hs1 hbY hT2 hbZ)
      clear hs1 hT1 hbY hs2 hT2 hbZ
      go_wp2_with fail
      go_loopw [15] (fun i wr => ∃ n : Nat, n ≤ qs.length ∧ i = .int .i64 n ∧ Hid (Rel2 ss ex qs wX n wr)) (fun i _ => qs.length - (intOf i).toNat)
      case atStart => exact ⟨0, Nat.zero_le _, rfl, R0⟩
      case round =>
        obtain ⟨n, hn, rfl, ⟨v1, v2, hT1, hT2, hap, hbel⟩⟩ := hrel
        have hml := miss_take_le ss qs n
        have hml2 := miss_take_le (ss ++ [ex]) qs n
        have hszr : wX.heap.size + 2 ≤ wr.heap.size := by have := World.block_lt_of_cell? _ _ hT2.cell; simp at this; omega
        by_cases hlt : n < qs.length
        · obtain ⟨b, o, rfl, hcell, hcell2, hsq⟩ := (K3.out.later hbel).at hlt
          have HB := hide hbel
          have HT1 := hide hT1
          have HT2 := hide hT2
          have HAP := hide hap
          have hsz2 := hsq.2
          clear hbel hT1 hT2 hsq hap
          have hTa : Hid (∀ o, TermsAt (wr.alloc o) wX.heap.size (wX.heap.size + 2) v1 (miss ss (qs.take n))) := fun o => HT1.out.later ((Below.refl _ _).alloc (Nat.le_refl _) _)
          have hMa : Hid (∀ o, MapIs (wr.alloc o) m1 ss) := fun o => KM1.out.later (HB.out.alloc (by omega) _)
          cases hx : (qs[n].2.toList == ex.toList) <;> cases hh : has ss qs[n].2
          all_goals
            have hh2 := has_snoc ss ex qs[n].2
            rw [hh, Bool.beq_comm (a := ex.toList), hx] at hh2
            simp only [Bool.or_false, Bool.or_true, Bool.false_or, Bool.true_or] at hh2
            have HH2 := hide hh2
            clear hh2
            go_wp2_with fail
            refine (zzPresent wX.heap.size (wX.heap.size + 2) v1 m1 (miss ss (qs.take n)) ss qs[n].1 qs[n].2 _ (hTa.out _) (hMa.out _) hsz2 (by simp; omega) (by omega)).mono ?_
            rintro e w6 ⟨he, v1', hT1', hk1, hloc1⟩
            rw [hh] at he
            subst he
            obtain ⟨hT26, hap6, hb6, hbox6, hsz6⟩ := rel2_first (ss := ss) (ex := ex) (qs := qs) (n := n) HT1.out HT2.out HAP.out HB.out hT1' hk1 hloc1
            have HT16 := hide hT1'
            have HT26 := hide hT26
            have HAP6 := hide hap6
            have HB6 := hide hb6
            have HX6 := hide hbox6
            have q1 : w6.cell? ⟨wr.heap.size, 0, none⟩ = some (.string qs[n].1) := by rw [cell_of_row _ _ _ _ _ _ hbox6]; rfl
            have q2 : w6.cell? ⟨wr.heap.size, 1, none⟩ = some (.string qs[n].2) := by rw [cell_of_row _ _ _ _ _ _ hbox6]; rfl
            have hM6 : Hid (MapIs w6 m2 (ss ++ [ex])) := KM2.out.later hb6
            clear hT1' hk1 hloc1 hT26 hap6 hb6 hbox6
            go_wp2_with fail
            refine (zzPresent (wX.heap.size + 1) (wX.heap.size + 2) v2 m2 (miss (ss ++ [ex]) (qs.take n)) (ss ++ [ex]) qs[n].1 qs[n].2 _ HT26.out hM6.out hsz2 (by omega) (by omega)).mono ?_
            rintro e w7 ⟨he, v2', hT2', hk2, hloc2⟩
            rw [HH2.out] at he
            subst he
            obtain ⟨hT17, hap7, hb7, hbox7⟩ := rel2_second (ss := ss) (ex := ex) (qs := qs) (n := n) (wr := wr) HT16.out HT26.out HAP6.out HB6.out (fun g hg => (HT2.out.vblock g hg).2) hszr HX6.out hT2' hk2 hloc2
            have HR : Hid (Rel2 ss ex qs wX (n + 1) w7) := ⟨v1', v2', by rw [miss_step ss qs n hlt]; exact hT17, by rw [miss_step (ss ++ [ex]) qs n hlt]; exact hT2', hap7, hb7⟩
            have q3 : w7.cell? ⟨wr.heap.size, 1, none⟩ = some (.string qs[n].2) := by rw [cell_of_row _ _ _ _ _ _ hbox7]; rfl
            clear hT17 hap7 hb7 hbox7 hT2' hk2 hloc2 HT16 HT26 HAP6 HB6 HX6 hM6 HT1 HT2 HAP HB hTa hMa q1 q2
            go_wp2
            go_roundw
            case rel => exact ⟨n + 1, by omega, by go_num, HR⟩
            case measure => simp [intOf]; omega
        · obtain rfl : n = qs.length := by omega
          rw [List.take_length] at hT1 hT2
          rw [miss_snoc] at hT2
          have hLl : (miss ss qs).length ≤ 4096 := by have := miss_le ss qs; omega
          generalize miss ss qs = L at hT1 hT2 hLl
          have hkl : (keep ex L).length ≤ 4096 := by have := keep_le ex L L.length; rw [List.take_length] at this; omega
          have HWL : Hid (Below w0.heap.size w0 wr) := HWX.out.trans (hbel.mono HWX.out.size)
          have HT1 := hide hT1
          have HT2 := hide hT2
          clear hT1 hT2 hap hbel KM1 KM2 K3 R0 HWX hml hml2 hszr hn
          go_wp2_with fail
          refine (absentLen _ _ _ _ _ HT1.out).mono ?_
          rintro e w7 ⟨rfl, hw⟩
          subst hw
          go_wp2_with fail
          refine (absentLen _ _ _ _ _ HT2.out).mono ?_
          rintro e w8 ⟨rfl, hw⟩
          subst hw
          go_wp2_with fail
          go_loopw [21, 22] (fun j i wx => ∃ n : Nat, n ≤ L.length ∧ i = .int .i64 n ∧ j = .int .i64 (keep ex (L.take n)).length ∧ Hid (Below w8.heap.size w8 wx)) (fun _ i _ => L.length - (intOf i).toNat)
          case atStart => exact ⟨0, Nat.zero_le _, rfl, by simp [keep], Below.refl _ _⟩
          case round =>
            obtain ⟨n, hn, rfl, rfl, HX⟩ := hrel
            have hkt := keep_le ex L n
            by_cases hlt : n < L.length
            · have HE := hide (keep_step ex L n hlt)
              have HQ : Hid (L[n]? = some L[n]) := List.getElem?_eq_getElem hlt
              cases hx : (L[n].2.toList == ex.toList)
              · have HA := hide (keep_at ex L n hlt hx)
                have hlt2 : (keep ex (L.take n)).length < (keep ex L).length := (List.getElem?_eq_some_iff.1 (keep_at ex L n hlt hx)).1
                go_wp2_with fail
                refine (absentAt' _ _ _ _ _ (HT1.out.later HX.out) _ _ HQ.out (by omega)).mono ?_
                rintro e w9 ⟨rfl, nd9, hw⟩
                subst hw
                go_wp2_with fail
                refine (absentAt' _ _ _ _ _ (HT2.out.later (below_drewN HX.out _)) _ _ HA.out (by omega)).mono ?_
                rintro e w10 ⟨rfl, nd10, hw⟩
                subst hw
                go_wp2
                go_roundw
                case rel => exact ⟨n + 1, by omega, by go_num, by rw [HE.out, hx]; simp, by first | exact below_drewN (below_drewN HX.out _) _ | exact below_drewN HX.out _⟩
                case measure => simp [intOf]; omega
              · go_wp2_with fail
                refine (absentAt' _ _ _ _ _ (HT1.out.later HX.out) _ _ HQ.out (by omega)).mono ?_
                rintro e w9 ⟨rfl, nd9, hw⟩
                subst hw
                go_wp2
                go_roundw
                case rel => exact ⟨n + 1, by omega, by go_num, by rw [HE.out, hx]; simp, below_drewN HX.out _⟩
                case measure => simp [intOf]; omega
            · obtain rfl : n = L.length := by omega
              have HF : Hid (Below w0.heap.size w0 wr) := HWL.out.trans (HX.out.mono HWL.out.size)
              simp only [List.take_length]
              go_wp2
              go_ret
              exact ⟨by simp, HF.out⟩

end Go.Proofs.Qxb6605643a
