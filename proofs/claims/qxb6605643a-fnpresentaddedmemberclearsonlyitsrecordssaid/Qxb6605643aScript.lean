import Derived.Test.Qxb6605643aTerms
namespace Go.Proofs.Qxb6605643a
set_option linter.unusedSimpArgs false
set_option linter.unusedVariables false
open Go.ChangeShapes Go.WideShapes Go.ChangeAt Go.RowKit Go.Maps Go.WideMaps

theorem TermsAt.later {w w' : World} {tb base : Nat} {v : Value} {recs : List (ByteArray × ByteArray)} (h : TermsAt w tb base v recs) (hb : Below w.heap.size w w') : TermsAt w' tb base v recs :=
  ⟨cell_later hb h.cell, (hb.frozen (World.block_lt_of_cell? _ _ h.cell)).trans h.open_, h.owns.kept (row := none) ⟨hb.os, hb.tape, hb.output, hb.size, fun k hk _ => hb.block k hk⟩ (by cases hv : v.ownBlock <;> simp), h.lt⟩

theorem TermsAt.vblock {w : World} {tb base : Nat} {v : Value} {recs : List (ByteArray × ByteArray)} (h : TermsAt w tb base v recs) : ∀ k, some k = v.ownBlock → base ≤ k ∧ k < w.heap.size := fun k hk => h.owns.lt k hk.symm

theorem Kept2.below {w w' : World} {tb base : Nat} {v : Value} {recs : List (ByteArray × ByteArray)} (hT : TermsAt w tb base v recs) (h : Kept2 w w' tb v) : Below tb w w' :=
  ⟨h.os, h.tape, h.output, h.size, fun k hk => h.block k (Nat.lt_trans hk (World.block_lt_of_cell? _ _ hT.cell)) (by omega) (fun e => by have := (hT.vblock k e).1; have := hT.lt; omega)⟩

/-- The queries that miss. -/
def miss (ss : List ByteArray) (qs : List (ByteArray × ByteArray)) : List (ByteArray × ByteArray) := qs.filter fun q => !has ss q.2
theorem miss_step (ss : List ByteArray) (qs : List (ByteArray × ByteArray)) (n : Nat) (h : n < qs.length) : miss ss (qs.take (n + 1)) = if has ss qs[n].2 then miss ss (qs.take n) else miss ss (qs.take n) ++ [qs[n]] := by
  unfold miss
  rw [List.take_succ_eq_append_getElem h, List.filter_append]
  cases hh : has ss qs[n].2 <;> simp [hh]
theorem miss_le (ss : List ByteArray) (qs : List (ByteArray × ByteArray)) : (miss ss qs).length ≤ qs.length := List.length_filter_le _ _
theorem miss_take_le (ss : List ByteArray) (qs : List (ByteArray × ByteArray)) (n : Nat) : (miss ss (qs.take n)).length ≤ qs.length := by
  have := miss_le ss (qs.take n)
  have := List.length_take_le n qs
  simp at *; omega
theorem miss_at (ss : List ByteArray) (qs : List (ByteArray × ByteArray)) (n : Nat) (h : n < qs.length) (hh : has ss qs[n].2 = false) : (miss ss qs)[(miss ss (qs.take n)).length]? = some qs[n] := by
  have e : qs = qs.take n ++ qs[n] :: qs.drop (n + 1) := by rw [List.getElem_cons_drop, List.take_append_drop]
  have : miss ss qs = miss ss (qs.take n) ++ qs[n] :: miss ss (qs.drop (n + 1)) := by
    conv => lhs; rw [e]
    unfold miss
    rw [List.filter_append, List.filter_cons]
    simp [hh]
  rw [this, List.getElem?_append_right (Nat.le_refl _), Nat.sub_self]
  rfl

theorem absentAt' (tb base : Nat) (v : Value) (recs : List (ByteArray × ByteArray)) (w : World) (hT : TermsAt w tb base v recs) (j : Nat) (q : ByteArray × ByteArray) (hq : recs[j]? = some q) (hn : recs.length ≤ 1048576) :
    Calls Try.prog 14 #[.pointer (some ⟨tb, 0, none⟩), .int .i64 j] w fun e w' => e = .returned (.tuple #[.string q.1, .string q.2]) ∧ ∃ n, w' = w.drewN n := by
  obtain ⟨hj, rfl⟩ := List.getElem?_eq_some_iff.1 hq
  exact absentAt tb base v recs w hT j hj hn

/-- The first loop's relation on the world. -/
def Rel1 (ss : List ByteArray) (qs : List (ByteArray × ByteArray)) (wE : World) (n : Nat) (wr : World) : Prop :=
  ∃ v, TermsAt wr wE.heap.size (wE.heap.size + 1) v (miss ss (qs.take n)) ∧ Below wE.heap.size wE wr ∧ wE.heap.size + 1 ≤ wr.heap.size

theorem rel1_start {ss : List ByteArray} {qs : List (ByteArray × ByteArray)} {wE wF : World} (hT : TermsAt wF wE.heap.size (wE.heap.size + 1) (.slice none 0 0) []) (hs : wF.heap.size = wE.heap.size + 1) (hb : Below wE.heap.size wE wF) : Rel1 ss qs wE 0 wF :=
  ⟨_, hT, hb, by omega⟩

/-- What a call of present leaves in the round: the box of the query, the relation at the next round. -/
theorem rel1_step {ss : List ByteArray} {qs : List (ByteArray × ByteArray)} {wE wr w6 : World} {n : Nat} {v v' : Value} {o : Obj} (hn : n < qs.length) (hT : TermsAt wr wE.heap.size (wE.heap.size + 1) v (miss ss (qs.take n))) (hb : Below wE.heap.size wE wr)
    (hT' : TermsAt w6 wE.heap.size (wE.heap.size + 1) v' (if has ss qs[n].2 then miss ss (qs.take n) else miss ss (qs.take n) ++ [(qs[n].1, qs[n].2)])) (hk : Kept2 (wr.alloc o) w6 wE.heap.size v) :
    Rel1 ss qs wE (n + 1) w6 ∧ w6.heap[wr.heap.size]? = some o := by
  have hlt := hT.lt
  have htb := World.block_lt_of_cell? _ _ hT.cell
  have hTa : TermsAt (wr.alloc o) wE.heap.size (wE.heap.size + 1) v (miss ss (qs.take n)) := hT.later ((Below.refl _ _).alloc (Nat.le_refl _) _)
  have hb6 : Below wE.heap.size wE w6 := ((hb.alloc (by exact Nat.le_of_lt htb) o)).trans (hk.below hTa)
  refine ⟨⟨v', ?_, hb6, ?_⟩, ?_⟩
  · rw [miss_step ss qs n hn]; exact hT'
  · have := World.block_lt_of_cell? _ _ hT'.cell
    simp at this; omega
  · rw [hk.block wr.heap.size (by simp) (by simp at htb; omega) (fun e => by have := (hT.vblock _ e).2; omega)]
    exact heap_alloc_new wr o

set_option maxHeartbeats 2000000 in
theorem walk3 (a1 a2 a3 : Option Addr) (c1 c2 c3 : Nat) (ss ts : List ByteArray) (qs : List (ByteArray × ByteArray)) (w : World) (hl1 : ss.length ≤ 9223372036854775807) (hl2 : ts.length ≤ 9223372036854775807) (hl3 : qs.length ≤ 9223372036854775807)
    (h1 : StrRow w a1 ss) (h2 : StrRow w a2 ts) (h3 : QRow w a3 qs) (n1 : a1 = none → c1 = 0 ∧ ss = []) (n2 : a2 = none → c2 = 0 ∧ ts = []) (n3 : a3 = none → c3 = 0 ∧ qs = []) :
    Calls Try.prog 3 #[.slice a1 ss.length c1, .slice a2 ts.length c2, .slice a3 qs.length c3] w fun e w' => e = .returned (.bool true) ∧ Below w.heap.size w w' := by
  have H1 := hide h1
  have H2 := hide h2
  have H3 := hide h3
  have N1 := hide n1
  have N2 := hide n2
  have N3 := hide n3
  clear h1 h2 h3 n1 n2 n3
  go_enter Try.func3, Try.ntmps3
  go_wp2_with fail
  refine (zzBytes5 a1 a2 a3 c1 c2 c3 ss ts qs _ hl1 hl2 hl3 H1.out H2.out H3.out).mono ?_
  rintro e w0 ⟨⟨b, rfl⟩, rfl⟩
  cases b
  · go_wp2
    go_ret
    exact ⟨rfl, Below.refl _ _⟩
  by_cases b1 : 4096 < ss.length
  · go_wp2
    go_ret
    exact ⟨rfl, Below.refl _ _⟩
  by_cases b2 : 4096 < ts.length
  · go_wp2
    go_ret
    exact ⟨rfl, Below.refl _ _⟩
  by_cases b3 : 4096 < qs.length
  · go_wp2
    go_ret
    exact ⟨rfl, Below.refl _ _⟩
  go_wp2_with fail
  refine (zzScriptBytes a1 a2 a3 c1 c2 c3 ss ts qs _ _ (by omega) (by omega) (by omega) (by decide) H1.out H2.out H3.out).mono ?_
  rintro e wd ⟨⟨y, rfl⟩, nd, rfl⟩
  by_cases b4 : 1048576 < y
  · go_wp2
    go_ret
    exact ⟨rfl, below_drewN (Below.refl _ _) _⟩
  have hbd : Below w0.heap.size w0 (w0.drewN nd) := below_drewN (Below.refl _ _) _
  generalize w0.drewN nd = wA at hbd ⊢
  go_wp2_with fail
  refine (cloneStrings a1 c1 ss _ (by omega) (H1.out.later hbd) N1.out).mono ?_
  rintro e wB ⟨a1', c1', rfl, hn1, hr1, hb1⟩
  have hbB : Below w0.heap.size w0 wB := hbd.trans (hb1.mono hbd.size)
  go_wp2_with fail
  refine (cloneStrings a2 c2 ts _ (by omega) (H2.out.later hbB) N2.out).mono ?_
  rintro e wC ⟨a2', c2', rfl, hn2, hr2, hb2⟩
  have hbC : Below w0.heap.size w0 wC := hbB.trans (hb2.mono hbB.size)
  go_wp2_with fail
  refine (cloneQueries a3 c3 qs _ (by omega) (H3.out.later hbC) N3.out).mono ?_
  rintro e wD ⟨a3', c3', rfl, hr3, hb3⟩
  have hbD : Below w0.heap.size w0 wD := hbC.trans (hb3.mono hbC.size)
  have K1 := hide ((hr1.later hb2).later hb3)
  have K2 := hide (hr2.later hb3)
  have K3 := hide hr3
  have M1 : Hid (a1' = none → ss = []) := fun h => (N1.out (hn1.1 h)).2
  clear hr1 hr2 hr3 hn1 hn2 H1 H2 H3 N1 N2 N3
  go_wp2_with fail
  refine (zzObject a1' a2' c1' c2' ss ts _ (by omega) (by omega) K1.out K2.out M1.out).mono ?_
  rintro e wE ⟨m, rfl, hm, hb4⟩
  have hbE : Below w0.heap.size w0 wE := hbD.trans (hb4.mono hbD.size)
  have K1 := hide (K1.out.later hb4)
  have K3 := hide (K3.out.later hb4)
  have KM := hide hm
  clear hm K2 hb1 hb2 hb3 hb4 hbB hbC hbD hbd
  go_wp2_with fail
  refine (newTerms _).mono ?_
  rintro e wF ⟨rfl, hszF, hTF, hbF⟩
  have HTF := hide (hTF (wE.heap.size + 1) (by omega))
  clear hTF
  have R0 := hide (rel1_start (ss := ss) (qs := qs) HTF.out hszF hbF)
  clear HTF hszF hbF
  go_wp2_with fail
  go_loopw [9, 10] (fun t i wr => ∃ n : Nat, n ≤ qs.length ∧ i = .int .i64 n ∧ t = .int .i64 (miss ss (qs.take n)).length ∧ Hid (Rel1 ss qs wE n wr)) (fun _ i _ => qs.length - (intOf i).toNat)
  case atStart => exact ⟨0, Nat.zero_le _, rfl, by simp [miss], R0⟩
  case round =>
    obtain ⟨n, hn, rfl, rfl, ⟨v, hT, hbel, hsz⟩⟩ := hrel
    have hml := miss_take_le ss qs n
    by_cases hlt : n < qs.length
    · obtain ⟨b, o, rfl, hcell, hcell2, hsq⟩ := (K3.out.later hbel).at hlt
      have HB := hide hbel
      have HT := hide hT
      have hsz1 := hsq.1
      have hsz2 := hsq.2
      clear hbel hT hsq
      have hTa : Hid (∀ o, TermsAt (wr.alloc o) wE.heap.size (wE.heap.size + 1) v (miss ss (qs.take n))) := fun o => HT.out.later ((Below.refl _ _).alloc (Nat.le_refl _) _)
      have hMa : Hid (∀ o, MapIs (wr.alloc o) m ss) := fun o => KM.out.later (HB.out.alloc (by omega) _)
      cases hh : has ss qs[n].2
      · go_wp2_with fail
        refine (zzPresent wE.heap.size (wE.heap.size + 1) v m (miss ss (qs.take n)) ss qs[n].1 qs[n].2 _ (hTa.out _) (hMa.out _) hsz2 (by simp; omega) (by omega)).mono ?_
        rintro e w6 ⟨he, v', hT', hk2, hloc⟩
        obtain ⟨hR, hbox⟩ := rel1_step hlt HT.out HB.out hT' hk2
        rw [hh] at he hT'
        subst he
        have q1 : w6.cell? ⟨wr.heap.size, 0, none⟩ = some (.string qs[n].1) := by rw [cell_of_row _ _ _ _ _ _ hbox]; rfl
        have q2 : w6.cell? ⟨wr.heap.size, 1, none⟩ = some (.string qs[n].2) := by rw [cell_of_row _ _ _ _ _ _ hbox]; rfl
        have HR := hide hR
        have HT6 := hide hT'
        clear hR hbox hT' hk2 hloc hTa hMa
        have hb6 : Hid (Below wE.heap.size wE w6) := by obtain ⟨_, _, h, _⟩ := HR.out; exact h
        go_wp2_with fail
        refine (zzHas a1' c1' ss qs[n].2 _ (by omega) (K1.out.later hb6.out)).mono ?_
        rw [hh]
        rintro e w7 ⟨rfl, hw⟩
        subst hw
        go_wp2_with fail
        refine (absentLen _ _ _ _ _ HT6.out).mono ?_
        rintro e w8 ⟨rfl, hw⟩
        subst hw
        have HE := hide (miss_step ss qs n hlt)
        go_wp2
        go_roundw
        case rel => exact ⟨n + 1, by omega, by go_num, by rw [HE.out, hh]; simp, HR⟩
        case measure => simp [intOf]; omega
      · go_wp2_with fail
        refine (zzPresent wE.heap.size (wE.heap.size + 1) v m (miss ss (qs.take n)) ss qs[n].1 qs[n].2 _ (hTa.out _) (hMa.out _) hsz2 (by simp; omega) (by omega)).mono ?_
        rintro e w6 ⟨he, v', hT', hk2, hloc⟩
        obtain ⟨hR, hbox⟩ := rel1_step hlt HT.out HB.out hT' hk2
        rw [hh] at he hT'
        subst he
        have q1 : w6.cell? ⟨wr.heap.size, 0, none⟩ = some (.string qs[n].1) := by rw [cell_of_row _ _ _ _ _ _ hbox]; rfl
        have q2 : w6.cell? ⟨wr.heap.size, 1, none⟩ = some (.string qs[n].2) := by rw [cell_of_row _ _ _ _ _ _ hbox]; rfl
        have HR := hide hR
        have HT6 := hide hT'
        clear hR hbox hT' hk2 hloc hTa hMa
        have hb6 : Hid (Below wE.heap.size wE w6) := by obtain ⟨_, _, h, _⟩ := HR.out; exact h
        go_wp2_with fail
        refine (zzHas a1' c1' ss qs[n].2 _ (by omega) (K1.out.later hb6.out)).mono ?_
        rw [hh]
        rintro e w7 ⟨rfl, hw⟩
        subst hw
        go_wp2_with fail
        refine (absentLen _ _ _ _ _ HT6.out).mono ?_
        rintro e w8 ⟨rfl, hw⟩
        subst hw
        have HE := hide (miss_step ss qs n hlt)
        go_wp2
        go_roundw
        case rel => exact ⟨n + 1, by omega, by go_num, by rw [HE.out, hh]; simp, HR⟩
        case measure => simp [intOf]; omega
    · obtain rfl : n = qs.length := by omega
      obtain ⟨wL, eL⟩ : ∃ x, x = wr := ⟨wr, rfl⟩
      subst eL
      have HT := hide hT
      have HB := hide hbel
      rw [List.take_length] at HT
      have hml2 := miss_le ss qs
      have HBW : Hid (Below w0.heap.size w0 wL) := hbE.trans (hbel.mono hbE.size)
      have K1 := hide (K1.out.later hbel)
      have K3 := hide (K3.out.later hbel)
      clear hT hbel hbE KM R0 hn hml HB
      simp only [List.take_length]
      go_wp2
      go_loopw [14, 15] (fun j i wx => ∃ n : Nat, n ≤ qs.length ∧ i = .int .i64 n ∧ j = .int .i64 (miss ss (qs.take n)).length ∧ Hid (Below wL.heap.size wL wx)) (fun _ i _ => qs.length - (intOf i).toNat)
      case atStart => exact ⟨0, Nat.zero_le _, rfl, by simp [miss], Below.refl _ _⟩
      case round =>
        obtain ⟨n, hn, rfl, rfl, HX⟩ := hrel
        have hmt := miss_take_le ss qs n
        by_cases hlt : n < qs.length
        · obtain ⟨b, o, rfl, hcell, hcell2, hsq⟩ := (K3.out.later HX.out).at hlt
          have hXa : Hid (∀ o, Below wL.heap.size wL (wr.alloc o)) := fun o => HX.out.alloc HX.out.size o
          have HE := hide (miss_step ss qs n hlt)
          have hszX := HX.out.size
          cases hh : has ss qs[n].2
          · have HA := hide (miss_at ss qs n hlt hh)
            have hlt2 : (miss ss (qs.take n)).length < (miss ss qs).length := (List.getElem?_eq_some_iff.1 (miss_at ss qs n hlt hh)).1
            go_wp2_with fail
            refine (zzHas a1' c1' ss qs[n].2 _ (by omega) (K1.out.later (hXa.out _))).mono ?_
            rw [hh]
            rintro e w7 ⟨rfl, hw⟩
            subst hw
            go_wp2_with fail
            refine (absentLen _ _ _ _ _ (HT.out.later (hXa.out _))).mono ?_
            rintro e w8 ⟨rfl, hw⟩
            subst hw
            go_wp2_with fail
            refine (absentAt' _ _ _ _ _ (HT.out.later (hXa.out _)) _ _ HA.out (by omega)).mono ?_
            rintro e w9 ⟨rfl, nd9, hw⟩
            subst hw
            go_wp2
            go_roundw
            case rel => exact ⟨n + 1, by omega, by go_num, by rw [HE.out, hh]; simp, below_drewN (hXa.out _) _⟩
            case measure => simp [intOf]; omega
          · go_wp2_with fail
            refine (zzHas a1' c1' ss qs[n].2 _ (by omega) (K1.out.later (hXa.out _))).mono ?_
            rw [hh]
            rintro e w7 ⟨rfl, hw⟩
            subst hw
            go_wp2
            go_roundw
            case rel => exact ⟨n + 1, by omega, by go_num, by rw [HE.out, hh]; simp, hXa.out _⟩
            case measure => simp [intOf]; omega
        · obtain rfl : n = qs.length := by omega
          have HF : Hid (Below w0.heap.size w0 wr) := HBW.out.trans (HX.out.mono HBW.out.size)
          rw [List.take_length]
          go_wp2_with fail
          refine (absentLen _ _ _ _ _ (HT.out.later HX.out)).mono ?_
          rintro e w7 ⟨rfl, hw⟩
          subst hw
          go_wp2
          go_ret
          exact ⟨by simp, HF.out⟩

end Go.Proofs.Qxb6605643a
