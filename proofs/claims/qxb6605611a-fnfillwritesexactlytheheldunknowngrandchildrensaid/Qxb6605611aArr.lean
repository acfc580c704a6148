import Derived.Test.Qxb6605611aBase
import Derived.Deep.MidRow
import Derived.Deep.WholeRow
namespace Go.Proofs.Qxb6605611a
set_option linter.unusedSimpArgs false
set_option linter.unusedVariables false
open Go.ChangeShapes Go.WideShapes Go.ChangeAt Go.RowKit

theorem hide {p : Prop} (h : p) : Hid p := h
theorem unhide {p : Prop} (h : Hid p) : p := h

/-- A row of bytes as cells. -/
def u8s (l : List Int) : List Value := l.map (Value.int .u8)
theorem u8s_length (l : List Int) : (u8s l).length = l.length := by simp [u8s]
theorem u8s_get (l : List Int) (j : Nat) : (u8s l)[j]? = l[j]?.map (Value.int .u8) := by simp [u8s]

theorem run_part5 (cs : Array Value) (off : Nat) (v : Value) (h : cs[off]? = some v) (w : World) : (part 5 cs off).run Try.prog w = .ok v w := by
  simp [part, isAgg, run_underlying Try.underlying5, h]

theorem arr_loop (d : Nat) (xs ys : Array Value) (ps qs : List Int) (hx : xs = (u8s ps).toArray) (hy : ys = (u8s qs).toArray) (w : World) : ∀ (n s : Nat), s + n ≤ ps.length → s + n ≤ qs.length →
    (forIn (m := Sem) (List.range' s n) ((none, ()) : Option Bool × Unit) (fun i r => do
        let b ← part 5 xs (i * 1)
        let c ← part 5 ys (i * 1)
        let e ← Op.equalIn (d + 1) 5 b c
        if (!e) = true then pure (ForInStep.done (some false, ())) else pure (ForInStep.yield (none, ())))).run Try.prog w =
      .ok (if (ps.drop s).take n = (qs.drop s).take n then (none, ()) else (some false, ())) w
  | 0, s, _, _ => by simp
  | n + 1, s, h1, h2 => by
    have ha : ps[s]? = some ps[s] := List.getElem?_eq_getElem (by omega)
    have hb : qs[s]? = some qs[s] := List.getElem?_eq_getElem (by omega)
    have e1 : (ps.drop s).take (n + 1) = ps[s] :: (ps.drop (s + 1)).take n := by
      rw [List.drop_eq_getElem_cons (by omega)]; rfl
    have e2 : (qs.drop s).take (n + 1) = qs[s] :: (qs.drop (s + 1)).take n := by
      rw [List.drop_eq_getElem_cons (by omega)]; rfl
    have p1 := run_part5 xs s (.int .u8 ps[s]) (by subst hx; simp [u8s_get, ha]) w
    have p2 := run_part5 ys s (.int .u8 qs[s]) (by subst hy; simp [u8s_get, hb]) w
    have p3 := run_equalIn_int (P := Try.prog) w d 5 .u8 .u8 ps[s] qs[s] Try.underlying5
    have ih := arr_loop d xs ys ps qs hx hy w n (s + 1) (by omega) (by omega)
    rw [List.range'_succ, List.forIn_cons]
    simp only [Nat.mul_one] at ih ⊢
    simp only [Sem.run_bind, p1, p2, p3, Result.andThen_ok, e1, e2]
    by_cases he : ps[s] = qs[s]
    · simp only [he, beq_self_eq_true, Bool.not_true, Bool.false_eq_true, if_false, Sem.run_pure, Result.andThen_ok, List.cons.injEq, true_and]
      exact ih
    · have : (ps[s] == qs[s]) = false := by simpa using he
      simp only [this, Bool.not_false, if_true, Sem.run_pure, Result.andThen_ok, List.cons.injEq, he, false_and, if_false]

theorem size5_run (w : World) : (sizeOf 5).run Try.prog w = .ok 1 w := by
  obtain ⟨i, hi, hz⟩ := Option.map_eq_some_iff.1 Try.size5
  simp [sizeOf, typeInfo, hi, hz]

theorem run_equalIn_arr (d : Nat) (t : TypeId) (ht : Try.prog.underlying t = some (.array 16 5)) (ps qs : List Int) (hp : ps.length = 16) (hq : qs.length = 16) (w : World) :
    (Op.equalIn (d + 2) t (.agg (u8s ps).toArray) (.agg (u8s qs).toArray)).run Try.prog w = .ok (ps == qs) w := by
  have h := arr_loop d (u8s ps).toArray (u8s qs).toArray ps qs rfl rfl w 16 0 (by omega) (by omega)
  rw [Op.equalIn]
  simp only [Sem.run_bind, run_underlying ht, Result.andThen_ok, size5_run]
  rw [Std.Legacy.Range.forIn_eq_forIn_range']
  simp only [Std.Legacy.Range.size] at *
  rw [show (16 - 0 + 1 - 1) / 1 = 16 from rfl, h]
  have e1 : (ps.drop 0).take 16 = ps := by rw [List.drop_zero]; exact List.take_of_length_le (by omega)
  have e2 : (qs.drop 0).take 16 = qs := by rw [List.drop_zero]; exact List.take_of_length_le (by omega)
  rw [e1, e2]
  by_cases he : ps = qs
  · subst he; simp
  · have : (ps == qs) = false := by simpa using he
    simp [he, this]

theorem run_neq_arr (t : TypeId) (ht : Try.prog.underlying t = some (.array 16 5)) (ps qs : List Int) (hp : ps.length = 16) (hq : qs.length = 16) (w : World) :
    (binOp .neq t (.agg (u8s ps).toArray) (.agg (u8s qs).toArray)).run Try.prog w = .ok (.bool (!(ps == qs))) w := by
  rw [run_neq_struct, run_equalIn_arr 9998 t ht ps qs hp hq w]
  rfl

end Go.Proofs.Qxb6605611a
