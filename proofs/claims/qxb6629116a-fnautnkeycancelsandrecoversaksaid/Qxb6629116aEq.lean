/-
  '==' of two arrays of bytes, as the model runs it.
-/
import Derived.Test.Qxb6629116aRows
import Derived.WalkKit
namespace Go.Proofs.Qxb6629116a
open Go.RowKit

def u8s (l : List Int) : Array Value := (l.map fun x => Value.int .u8 x).toArray

theorem all_range_eq (xs ys : List Int) (h : xs.length = ys.length) : ((List.range xs.length).all fun i => xs.getD i 0 == ys.getD i 0) = (xs == ys) := by
  induction xs generalizing ys with
  | nil =>
    cases ys with
    | nil => rfl
    | cons y ys => simp at h
  | cons x xs ih =>
    cases ys with
    | nil => simp at h
    | cons y ys =>
      have ih := ih ys (by simpa using h)
      rw [List.length_cons, List.range_succ_eq_map, List.all_cons, List.all_map]
      simp only [List.getD_cons_zero, Function.comp_def, List.getD_cons_succ, ih]
      simp [List.cons_beq_cons]

theorem run_equalIn_u8s {P : Program} (w : World) (d : Nat) (t e : TypeId) (n : Nat) (ht : P.underlying t = some (.array n e)) (he : P.underlying e = some (.int .u8)) (hsz : ∀ w, (sizeOf e).run P w = .ok 1 w)
    (xs ys : List Int) (hx : xs.length = n) (hy : ys.length = n) :
    (Op.equalIn (d + 2) t (.agg (u8s xs)) (.agg (u8s ys))).run P w = .ok (xs == ys) w := by
  rw [← all_range_eq xs ys (hx.trans hy.symm), hx, List.range_eq_range', Op.equalIn]
  simp only [Sem.run_bind, run_underlying ht, Result.andThen_ok, hsz, Std.Legacy.Range.forIn_eq_forIn_range', Std.Legacy.Range.size, Nat.sub_zero, Nat.add_sub_cancel, Nat.div_one]
  have hl : ∀ i ∈ List.range' 0 n 1, i < n := fun i hi => by simpa using (List.mem_range'_1.1 hi).2
  generalize List.range' 0 n 1 = l at hl ⊢
  induction l with
  | nil => simp
  | cons i l ih =>
    have hi : i < n := hl i (by simp)
    have px : (part e (u8s xs) (i * 1)).run P w = .ok (.int .u8 (xs.getD i 0)) w := by
      simp [u8s, part, isAgg, run_underlying he, List.getD, List.getElem?_eq_getElem (show i < xs.length by omega)]
    have py : (part e (u8s ys) (i * 1)).run P w = .ok (.int .u8 (ys.getD i 0)) w := by
      simp [u8s, part, isAgg, run_underlying he, List.getD, List.getElem?_eq_getElem (show i < ys.length by omega)]
    have pe : (Op.equalIn (d + 1) e (.int .u8 (xs.getD i 0)) (.int .u8 (ys.getD i 0))).run P w = .ok (xs.getD i 0 == ys.getD i 0) w := by
      rw [run_equalIn_int w d e .u8 .u8 _ _ he]
    simp only [List.forIn_cons, Sem.run_bind, px, py, pe, Result.andThen_ok, List.all_cons]
    cases hb : (xs.getD i 0 == ys.getD i 0)
    · simp
    · simp only [Bool.not_true, Bool.false_eq_true, if_false, Sem.run_pure, Result.andThen_ok, Bool.true_and]
      exact ih fun j hj => hl j (by simp [hj])

theorem eq6 (x0 x1 x2 x3 x4 x5 y0 y1 y2 y3 y4 y5 : Int) (w : World) :
    (Op.equalIn 10000 22 (.agg #[.int .u8 x0, .int .u8 x1, .int .u8 x2, .int .u8 x3, .int .u8 x4, .int .u8 x5]) (.agg #[.int .u8 y0, .int .u8 y1, .int .u8 y2, .int .u8 y3, .int .u8 y4, .int .u8 y5])).run Try.prog w = .ok ([x0, x1, x2, x3, x4, x5] == [y0, y1, y2, y3, y4, y5]) w :=
  run_equalIn_u8s (P := Try.prog) w 9998 22 5 6 Try.underlying22 Try.underlying5 (fun _ => by kernel_rfl) [x0, x1, x2, x3, x4, x5] [y0, y1, y2, y3, y4, y5] rfl rfl

theorem eq16 (x0 x1 x2 x3 x4 x5 x6 x7 x8 x9 x10 x11 x12 x13 x14 x15 : Int) (w : World) :
    (Op.equalIn 10000 25 (.agg #[.int .u8 x0, .int .u8 x1, .int .u8 x2, .int .u8 x3, .int .u8 x4, .int .u8 x5, .int .u8 x6, .int .u8 x7, .int .u8 x8, .int .u8 x9, .int .u8 x10, .int .u8 x11, .int .u8 x12, .int .u8 x13, .int .u8 x14, .int .u8 x15]) (.agg #[.int .u8 x0, .int .u8 x1, .int .u8 x2, .int .u8 x3, .int .u8 x4, .int .u8 x5, .int .u8 x6, .int .u8 x7, .int .u8 x8, .int .u8 x9, .int .u8 x10, .int .u8 x11, .int .u8 x12, .int .u8 x13, .int .u8 x14, .int .u8 x15])).run Try.prog w = .ok true w := by
  have h := run_equalIn_u8s (P := Try.prog) w 9998 25 5 16 Try.underlying25 Try.underlying5 (fun _ => by kernel_rfl) [x0, x1, x2, x3, x4, x5, x6, x7, x8, x9, x10, x11, x12, x13, x14, x15] [x0, x1, x2, x3, x4, x5, x6, x7, x8, x9, x10, x11, x12, x13, x14, x15] rfl rfl
  rw [beq_self_eq_true] at h
  exact h
end Go.Proofs.Qxb6629116a
