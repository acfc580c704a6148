import Derived.Test.Qxb6605643aClone
import Derived.Lib.ConvBytes
namespace Go.Proofs.Qxb6605643a
set_option linter.unusedSimpArgs false
set_option linter.unusedVariables false
open Go.ChangeShapes Go.WideShapes Go.ChangeAt Go.RowKit Go.Maps Go.WideMaps

theorem law : Keyed Try.prog 9 := string_keyed Try.underlying9
theorem zero43 (w : World) : (zeroValue 43).run Try.prog w = .ok (.slice none 0 0) w := by kernel_rfl
/-- What an element holds is not looked at. -/
def anyE (v : Value) : Option (DataW Unit × List MemPlace) := some (.agg [], [])
/-- A key as the map's datum has it. -/
def lk (k : ByteArray) : Lit := .string k.data.toList
/-- The keys of the datum are just those strings. -/
def HasKeys (D : DataW Unit) (ss : List ByteArray) : Prop := Maps.IsMap D ∧ ∀ k, Maps.has D (lk k) = has ss k
theorem HasKeys.start : HasKeys (.map []) [] := ⟨Maps.isMap_empty, fun _ => rfl⟩
theorem HasKeys.step {D : DataW Unit} {ss : List ByteArray} {n : Nat} (hn : n < ss.length) (h : HasKeys D (ss.take n)) : HasKeys (D.put (lk ss[n]) (.agg [])) (ss.take (n + 1)) := by
  refine ⟨h.1.put _ _, fun k => ?_⟩
  rw [List.take_succ_eq_append_getElem hn]
  by_cases e : lk ss[n] = lk k
  · have e' : ss[n].toList = k.toList := by
      rw [ByteArray.toList_eq, ByteArray.toList_eq]; simpa [lk] using e
    rw [← e, Maps.has_put_same h.1 (show WideAt.IsKeyLit (lk ss[n]) from trivial)]
    unfold has
    rw [List.any_append]
    simp [e']
  · have e' : ¬ ss[n].toList = k.toList := by
      rw [ByteArray.toList_eq, ByteArray.toList_eq]; simpa [lk] using e
    rw [Maps.has_put_other (Ne.symm e), h.2 k]
    unfold has
    rw [List.any_append]
    simp [e']

theorem bytes_grown (w : World) (e : TypeId) (s : ByteArray) : w.grownBy (Lib.bytesWorld w e s) none :=
  ⟨rfl, rfl, rfl, by rw [Lib.bytesWorld_size]; omega, fun k hk _ => Lib.bytesWorld_at_old w e s k hk⟩

/-- The map value 'm' has just those keys. -/
def MapIs (w : World) (m : Value) (ss : List ByteArray) : Prop :=
  (m = .map none ∧ ss = []) ∨ ∃ b n D, m = .map (some b) ∧ w.ownsMap Try.prog 9 anyE b n D ∧ HasKeys D ss

theorem MapIs.later {w w' : World} {m : Value} {ss : List ByteArray} (h : MapIs w m ss) (hb : Below w.heap.size w w') : MapIs w' m ss := by
  rcases h with h | ⟨b, n, D, h1, h2, h3⟩
  · exact .inl h
  · exact .inr ⟨b, n, D, h1, h2.kept (row := none) ⟨hb.os, hb.tape, hb.output, hb.size, fun k hk _ => hb.block k hk⟩ (by simp), h3⟩

/-- What the making of an object leaves. -/
def MadeObj (ss : List ByteArray) (w : World) (e : Ending) (w' : World) : Prop := ∃ m, e = .returned m ∧ MapIs w' m ss ∧ Below w.heap.size w w'

set_option maxHeartbeats 1000000 in
theorem zzObject (a1 a2 : Option Addr) (c1 c2 : Nat) (ss ts : List ByteArray) (w : World) (hl : ss.length ≤ 1048576) (hl2 : ts.length ≤ 1048576) (h1 : StrRow w a1 ss) (h2 : StrRow w a2 ts) (hnil : a1 = none → ss = []) :
    Calls Try.prog 9 #[.slice a1 ss.length c1, .slice a2 ts.length c2] w (MadeObj ss w) := by
  cases a1 with
  | none =>
    obtain rfl := hnil rfl
    have q := fun (w : World) => Lib.run_eql_slice_nil (P := Try.prog) w 22 9 none 0 c1 0 0 Try.underlying22
    go_enter Try.func9, Try.ntmps9
    go_wp2
    go_ret
    exact ⟨_, rfl, .inl ⟨rfl, rfl⟩, Below.refl _ _⟩
  | some x =>
    have q := fun (w : World) => Lib.run_eql_slice_nil (P := Try.prog) w 22 9 (some x) ss.length c1 0 0 Try.underlying22
    have hmm := @run_makeMap Try.prog
    have hcv := fun (w : World) (s : ByteArray) => Lib.run_convert_string_bytes (P := Try.prog) w 9 42 5 s Try.underlying9 Try.underlying42 Try.underlying5
    have H1 := hide h1
    have H2 := hide h2
    clear h1 h2 hnil
    go_enter Try.func9, Try.ntmps9
    go_wp2
    go_loopw [6] (fun i wr => ∃ (n : Nat) (D : DataW Unit), n ≤ ss.length ∧ i = .int .i64 n ∧ wr.ownsMap Try.prog 9 anyE w.heap.size n D ∧ Hid (HasKeys D (ss.take n)) ∧ Below w.heap.size w wr) (fun i _ => ss.length - (intOf i).toNat)
    case atStart => exact ⟨0, _, Nat.zero_le _, rfl, World.ownsMap_made _ _ _ _, HasKeys.start, (Below.refl _ _).alloc (Nat.le_refl _) _⟩
    case round =>
      obtain ⟨n, D, hn, rfl, hown, HK, hbel⟩ := hrel
      by_cases hlt : n < ss.length
      · obtain ⟨b, o, hx, hcell, hsz⟩ := (H1.out.later hbel).at hlt
        cases hx
        have hkey : keyOf Try.prog 9 (.string ss[n]) = some (lk ss[n]) := keyOf_string_mk Try.underlying9 hsz
        have HS := hide (HK.out.step hlt)
        have HKEY := hide hkey
        clear hkey
        by_cases hlt2 : n < ts.length
        · obtain ⟨b2, o2, rfl, hcell2, hsz2⟩ := (H2.out.later hbel).at hlt2
          go_wp2_with (at_mapUpdate; refine wpList_mapUpdate_own _ rfl _ _ _ 29 rfl 9 43 law Try.underlying29 anyE w.heap.size n D rfl (hown.kept (bytes_grown _ _ _) (by simp)) (by unfold maxLen; omega) _ _ _ rfl rfl HKEY.out (.agg []) [] rfl ?_; intro w1 hown1 hgrow1)
          go_roundw
          case rel => exact ⟨n + 1, _, by omega, by go_num, hown1, HS, (hbel.grown (bytes_grown _ _ _) hbel.size (by simp)).grown hgrow1 (by rw [Lib.bytesWorld_size]; have := hbel.size; omega) (fun j hj => by cases hj; exact Nat.le_refl _)⟩
          case measure => simp [intOf]; omega
        · clear H2
          go_wp2_with (at_mapUpdate; refine wpList_mapUpdate_own _ rfl _ _ _ 29 rfl 9 43 law Try.underlying29 anyE w.heap.size n D rfl (hown.kept (bytes_grown _ _ _) (by simp)) (by unfold maxLen; omega) _ _ _ rfl rfl HKEY.out (.agg []) [] rfl ?_; intro w1 hown1 hgrow1)
          go_roundw
          case rel => exact ⟨n + 1, _, by omega, by go_num, hown1, HS, (hbel.grown (bytes_grown _ _ _) hbel.size (by simp)).grown hgrow1 (by rw [Lib.bytesWorld_size]; have := hbel.size; omega) (fun j hj => by cases hj; exact Nat.le_refl _)⟩
          case measure => simp [intOf]; omega
      · obtain rfl : n = ss.length := by omega
        have HF : Hid (HasKeys D ss) := by have := HK.out; rwa [List.take_length] at this
        go_wp2
        go_ret
        exact ⟨_, rfl, .inr ⟨_, _, D, rfl, hown, HF.out⟩, hbel⟩

end Go.Proofs.Qxb6605643a
