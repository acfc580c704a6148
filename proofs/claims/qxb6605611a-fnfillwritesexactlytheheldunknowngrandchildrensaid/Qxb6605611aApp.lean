import Derived.Test.Qxb6605611aSmall
namespace Go.Proofs.Qxb6605611a
set_option linter.unusedSimpArgs false
set_option linter.unusedVariables false
open Go.ChangeShapes Go.WideShapes Go.ChangeAt Go.RowKit

/-! ### Appends on a row of bytes that the call itself has made -/
/-- The new slice lies where the old one lay, or in a new block. -/
def Moved (w : World) (v v' : Value) : Prop := ∀ g, v'.ownBlock = some g → v.ownBlock = some g ∨ w.heap.size ≤ g

/-- What appends to v, ending in v', leave of the world. -/
structure Apd (w w' : World) (v v' : Value) : Prop where
  grown : w.grownBy w' v.ownBlock
  moved : Moved w v v'

theorem Apd.trans {w w1 w2 : World} {v v1 v2 : Value} (h : Apd w w1 v v1) (k : Apd w1 w2 v1 v2) : Apd w w2 v v2 := by
  refine ⟨⟨k.grown.os.trans h.grown.os, k.grown.tape.trans h.grown.tape, k.grown.output.trans h.grown.output, Nat.le_trans h.grown.size k.grown.size, fun b hb hne => ?_⟩, fun g hg => ?_⟩
  · rw [k.grown.block b (Nat.lt_of_lt_of_le hb h.grown.size) ?_, h.grown.block b hb hne]
    intro q
    rcases h.moved b q.symm with r | r
    · exact hne r.symm
    · omega
  · rcases k.moved g hg with r | r
    · exact h.moved g r
    · exact .inr (Nat.le_trans h.grown.size r)

theorem Apd.of_below {w w' : World} (v : Value) (h : Below w.heap.size w w') : Apd w w' v v :=
  ⟨⟨h.os, h.tape, h.output, h.size, fun b hb _ => h.block b hb⟩, fun g hg => .inl hg⟩

theorem info5_parts : ∃ i, Try.prog.info? 5 = some i ∧ i.zero = some (.int .u8 0) ∧ i.size = 1 ∧ i.bytes = 1 := by
  obtain ⟨i, hi, hzz⟩ := Option.map_eq_some_iff.1 Try.info5
  simp only [Prod.mk.injEq] at hzz
  exact ⟨i, hi, hzz.1, hzz.2.1, hzz.2.2⟩

theorem run_app5 (w : World) (base : Nat) (ty : TypeId) (v : Value) (n : Nat) (xs : List Value) (hown : w.ownsRow base 5 1 v n xs) (a : Addr) (m c : Nat) (news : List Value) (hl : news.length = m)
    (hnews : ∀ j u, news[j]? = some u → w.cell? (a.add j) = some u) (h1 : ∀ u ∈ news, u.oneCell' = true) (hm0 : 0 < m) (hnm : n + m ≤ 1000) (hbase : base ≤ w.heap.size) :
    ∃ v' w', (Builtin.append_ #[22, 22] ty #[v, .slice (some a) m c]).run Try.prog w = .ok v' w' ∧ w'.ownsRow base 5 1 v' (n + m) (xs ++ news) ∧ Apd w w' v v' := by
  obtain ⟨i, hi, hz, hs, hb⟩ := info5_parts
  obtain ⟨v', w', hr, r1, r2, _⟩ := run_append_own (P := Try.prog) w base 22 ty 5 i (.int .u8 0) 1 1 Try.underlying22 hi hz hs hb rfl (by decide) v n xs hown a m c news (by omega) hnews h1 (by unfold maxLen; omega) (by omega) hbase
  refine ⟨v', w', hr, r1, r2, ?_⟩
  rcases hown.2 with ⟨rfl, rfl⟩ | ⟨g, cap, cur, rfl, hbg, hg, hnc, hcm, hcs, htake⟩
  · have q := run_append_nil (P := Try.prog) w 22 ty 5 i (.int .u8 0) Try.underlying22 hi hz a m c news (by rw [hs]; omega) hnews hm0 (by omega) (by rw [hb]; omega)
    rw [hr] at q
    injection q with q1 q2
    subst q1
    intro g hg
    simp [Value.ownBlock] at hg
    exact .inr (by omega)
  · by_cases hroom : n + m ≤ cap
    · have q := run_append_room (P := Try.prog) w 22 ty 5 i Try.underlying22 hi g n cap cur hg a m c news (by rw [hs]; omega) hnews h1 hroom (by rw [hs, hl, hcs]; omega)
      rw [hr] at q
      injection q with q1 q2
      subst q1
      exact fun g hg => .inl hg
    · have holds : ∀ j u, xs[j]? = some u → w.cell? ((⟨g, 0, none⟩ : Addr).add j) = some u := hown.cells (g := g) rfl
      have q := run_append_grow (P := Try.prog) w 22 ty 5 i (.int .u8 0) Try.underlying22 hi hz ⟨g, 0, none⟩ n cap xs (by rw [hs]; exact hown.1) holds a m c news (by rw [hs]; omega) hnews (by omega) (by omega) (growslice_fits (by omega) (by rw [hb]; omega))
      rw [hr] at q
      injection q with q1 q2
      subst q1
      intro g hg
      simp [Value.ownBlock] at hg
      exact .inr (by omega)

theorem wp_app5 {w : World} {o : Oper} {a : Act} {K : Act → World → Prop} {Q : Exit → Act → World → Prop} (s x : Operand) (ho : o.op = .call { callee := .builtin .append, args := #[s, x], argTypes := #[22, 22] })
    (base : Nat) (v : Value) (n : Nat) (xs : List Value) (hs : a.eval s = v) (hown : w.ownsRow base 5 1 v n xs) (ad : Addr) (m c : Nat) (news : List Value) (hx : a.eval x = .slice (some ad) m c) (hl : news.length = m)
    (hnews : ∀ j u, news[j]? = some u → w.cell? (ad.add j) = some u) (h1 : ∀ u ∈ news, u.oneCell' = true) (hm0 : 0 < m) (hnm : n + m ≤ 1000) (hbase : base ≤ w.heap.size)
    (h : ∀ v' w', w'.ownsRow base 5 1 v' (n + m) (xs ++ news) → Apd w w' v v' → K (a.put o.dst v') w') : o.wp Try.prog a w K Q := by
  obtain ⟨v', w', hr, h2, h3⟩ := run_app5 w base o.type v n xs hown ad m c news hl hnews h1 hm0 hnm hbase
  unfold Oper.wp execOp
  simp only [ho, resolve, invoke, builtin, Sem.run_bind, Sem.run_pure, Result.andThen_ok, List.map_toArray, List.map_cons, List.map_nil, hs, hx, hr]
  exact h v' w' h2 h3

theorem wpList_app5 {w : World} {ops : Array Oper} {rest : List Oper} {o : Oper} {a : Act} {Q : Exit → Act → World → Prop} (hgd : o.guard = none) (s x : Operand) (ho : o.op = .call { callee := .builtin .append, args := #[s, x], argTypes := #[22, 22] })
    (base : Nat) (v : Value) (n : Nat) (xs : List Value) (hs : a.eval s = v) (hown : w.ownsRow base 5 1 v n xs) (ad : Addr) (m c : Nat) (news : List Value) (hx : a.eval x = .slice (some ad) m c) (hl : news.length = m)
    (hnews : ∀ j u, news[j]? = some u → w.cell? (ad.add j) = some u) (h1 : ∀ u ∈ news, u.oneCell' = true) (hm0 : 0 < m) (hnm : n + m ≤ 1000) (hbase : base ≤ w.heap.size)
    (h : ∀ v' w', w'.ownsRow base 5 1 v' (n + m) (xs ++ news) → Apd w w' v v' → wpList Try.prog ops Q rest (a.put o.dst v') w') : wpList Try.prog ops Q (o :: rest) a w :=
  wpList_plain hgd fun _ hK => wp_app5 s x ho base v n xs hs hown ad m c news hx hl hnews h1 hm0 hnm hbase fun v' w' h2 h3 => hK _ _ (h v' w' h2 h3)

theorem step_app5 {w : World} {ops : Array Oper} {o : Oper} {a : Act} {K : Act → World → Prop} {Q : Exit → Act → World → Prop} {E : Prop} (hgd : o.guard = none) (s x : Operand) (ho : o.op = .call { callee := .builtin .append, args := #[s, x], argTypes := #[22, 22] })
    (base : Nat) (v : Value) (n : Nat) (xs : List Value) (hs : a.eval s = v) (hown : w.ownsRow base 5 1 v n xs) (ad : Addr) (m c : Nat) (news : List Value) (hx : a.eval x = .slice (some ad) m c) (hl : news.length = m)
    (hnews : ∀ j u, news[j]? = some u → w.cell? (ad.add j) = some u) (h1 : ∀ u ∈ news, u.oneCell' = true) (hm0 : 0 < m) (hnm : n + m ≤ 1000) (hbase : base ≤ w.heap.size)
    (h : ∀ v' w', w'.ownsRow base 5 1 v' (n + m) (xs ++ news) → Apd w w' v v' → K (a.put o.dst v') w') : if Region.wanted o (yielded ops a.tmps) = true then Oper.wp Try.prog o a w K Q else E := by
  rw [if_pos (by simp [Region.wanted, hgd])]
  exact wp_app5 s x ho base v n xs hs hown ad m c news hx hl hnews h1 hm0 hnm hbase h

/-- What a function that appends 'news' leaves. -/
def AppPost (base : Nat) (v : Value) (n : Nat) (xs news : List Value) (w : World) (e : Ending) (w' : World) : Prop :=
  ∃ v', e = .returned v' ∧ w'.ownsRow base 5 1 v' (n + news.length) (xs ++ news) ∧ Apd w w' v v'

theorem ownsRow_alloc {w : World} {base : Nat} {v : Value} {n : Nat} {xs : List Value} (h : w.ownsRow base 5 1 v n xs) (o : Obj) : (w.alloc o).ownsRow base 5 1 v n xs := h.alloc o

set_option maxHeartbeats 1000000 in
set_option maxRecDepth 100000 in
/-- encoding/binary.AppendUvarint at a count below 128. -/
theorem appUvarint (base : Nat) (v : Value) (n : Nat) (xs : List Value) (x : Int) (hx0 : 0 ≤ x) (hx1 : x < 128) (w : World) (hown : w.ownsRow base 5 1 v n xs) (hn : n ≤ 900) (hbase : base ≤ w.heap.size) :
    Calls Try.prog 59 #[v, .int .u64 x] w (AppPost base v n xs [.int .u8 x] w) := by
  have HOWN := hide hown
  clear hown
  have hw8 : IntKind.u8.wrap x = x := by simp [IntKind.wrap, IntKind.signed, IntKind.bits]; omega
  go_enter Try.func59, Try.ntmps59
  go_wp2
  go_loopw [0, 1] (fun u y wr => u = v ∧ y = .int .u64 x ∧ wr = w) (fun _ _ _ => 0)
  case atStart => exact ⟨rfl, rfl, rfl⟩
  case round =>
    obtain ⟨rfl, rfl, rfl⟩ := hrel
    go_wp2_with (at_builtin; refine wpList_app5 rfl (.tmp 15) (.tmp 18) rfl base u0 n xs rfl (HOWN.out.alloc _) ⟨wr.heap.size, 0, none⟩ 1 1 [.int .u8 x] rfl rfl (fun j u hj => new_cells wr [.int .u8 x] 5 j u hj) (by simp [Value.oneCell']) (by decide) (by omega) (by simp; omega) ?_; intro v' w' hown' happ)
    go_ret
    exact ⟨v', rfl, hown', (Apd.of_below _ (by go_grown)).trans happ⟩

set_option maxHeartbeats 1000000 in
theorem appCount (base : Nat) (v : Value) (n : Nat) (xs : List Value) (x : Int) (hx0 : 0 ≤ x) (hx1 : x < 128) (w : World) (hown : w.ownsRow base 5 1 v n xs) (hn : n ≤ 900) (hbase : base ≤ w.heap.size) :
    Calls Try.prog 47 #[v, .int .i64 x] w (AppPost base v n xs [.int .u8 x] w) := by
  have HOWN := hide hown
  clear hown
  have hw64 : IntKind.u64.wrap x = x := by simp [IntKind.wrap, IntKind.signed, IntKind.bits]; omega
  go_enter Try.func47, Try.ntmps47
  go_wp2_with (go_at_call 59; refine (appUvarint base v n xs x hx0 hx1 w HOWN.out hn hbase).mono ?_; rintro e w' ⟨v', rfl, hown', happ⟩)
  go_ret
  exact ⟨v', rfl, hown', happ⟩

set_option maxHeartbeats 1000000 in
theorem appListHead (base : Nat) (v : Value) (n : Nat) (xs : List Value) (x : Int) (hx0 : 0 ≤ x) (hx1 : x < 128) (w : World) (hown : w.ownsRow base 5 1 v n xs) (hn : n ≤ 800) (hbase : base ≤ w.heap.size) :
    Calls Try.prog 43 #[v, .int .i64 x] w (AppPost base v n xs [.int .u8 6, .int .u8 x] w) := by
  have HOWN := hide hown
  clear hown
  go_enter Try.func43, Try.ntmps43
  go_wp2_with (first
    | (at_builtin; refine wpList_app5 rfl (.tmp 5) (.tmp 6) rfl base v n xs rfl (HOWN.out.alloc _) ⟨w.heap.size, 0, none⟩ 1 1 [.int .u8 6] rfl rfl (fun j u hj => new_cells w [.int .u8 6] 5 j u hj) (by simp [Value.oneCell']) (by decide) (by omega) (by simp; omega) ?_; intro v1 w1 hown1 happ1)
    | (go_at_call 47; refine (appCount base v1 (n + 1) (xs ++ [.int .u8 6]) x hx0 hx1 w1 hown1 (by omega) (by have := happ1.grown.size; simp at this; omega)).mono ?_; rintro e w2 ⟨v2, rfl, hown2, happ2⟩))
  go_ret
  exact ⟨v2, rfl, by simpa using hown2, ((Apd.of_below _ (by go_grown)).trans happ1).trans happ2⟩

set_option maxHeartbeats 1000000 in
theorem appMapHead (base : Nat) (v : Value) (n : Nat) (xs : List Value) (x : Int) (hx0 : 0 ≤ x) (hx1 : x < 128) (w : World) (hown : w.ownsRow base 5 1 v n xs) (hn : n ≤ 800) (hbase : base ≤ w.heap.size) :
    Calls Try.prog 54 #[v, .int .i64 x] w (AppPost base v n xs [.int .u8 7, .int .u8 x] w) := by
  have HOWN := hide hown
  clear hown
  go_enter Try.func54, Try.ntmps54
  go_wp2_with (first
    | (at_builtin; refine wpList_app5 rfl (.tmp 5) (.tmp 6) rfl base v n xs rfl (HOWN.out.alloc _) ⟨w.heap.size, 0, none⟩ 1 1 [.int .u8 7] rfl rfl (fun j u hj => new_cells w [.int .u8 7] 5 j u hj) (by simp [Value.oneCell']) (by decide) (by omega) (by simp; omega) ?_; intro v1 w1 hown1 happ1)
    | (go_at_call 47; refine (appCount base v1 (n + 1) (xs ++ [.int .u8 7]) x hx0 hx1 w1 hown1 (by omega) (by have := happ1.grown.size; simp at this; omega)).mono ?_; rintro e w2 ⟨v2, rfl, hown2, happ2⟩))
  go_ret
  exact ⟨v2, rfl, by simpa using hown2, ((Apd.of_below _ (by go_grown)).trans happ1).trans happ2⟩

end Go.Proofs.Qxb6605611a
