/-
  '==' of two arrays of bytes, as the model runs it.
-/
import Derived.Test.Qxb6629116aRows
import Derived.WalkKit
import Derived.ChangeKeysEq
namespace Go.Proofs.Qxb6629116a
open Go.RowKit

def u8s (l : List Int) : Array Value := (l.map fun x => Value.int .u8 x).toArray

theorem all_at_iff (xs ys : List Int) (h : xs.length = ys.length) : ((List.range xs.length).all fun i => xs.getD i 0 == ys.getD i 0) = (xs == ys) := by
  rw [Bool.eq_iff_iff, List.all_eq_true, beq_iff_eq]
  constructor
  · intro hall
    refine List.ext_getElem h fun i h1 h2 => ?_
    have := hall i (List.mem_range.2 h1)
    simpa [List.getD, h1, h2] using this
  · rintro rfl i _
    simp

theorem part_u8s {P : Program} (w : World) (e : TypeId) (he : P.underlying e = some (.int .u8)) (xs : List Int) (i : Nat) (hi : i < xs.length) : (part e (u8s xs) (i * 1)).run P w = .ok (.int .u8 (xs.getD i 0)) w := by
  simp [u8s, part, isAgg, run_underlying he, List.getD, List.getElem?_eq_getElem hi]

/-- The items of two arrays of bytes, compared one after the other. -/
theorem eqItems_u8s {P : Program} (w : World) (d : Nat) (e : TypeId) (he : P.underlying e = some (.int .u8)) (xs ys : List Int) (h : xs.length = ys.length) (l : List Nat) (hl : ∀ i ∈ l, i < xs.length) :
    (Op.eqItems (d + 1) e 1 (u8s xs) (u8s ys) l).run P w = .ok (l.all fun i => xs.getD i 0 == ys.getD i 0) w := by
  induction l with
  | nil => rfl
  | cons i l ih =>
    have hi := hl i (by simp)
    have ih' := ih fun k hk => hl k (by simp [hk])
    simp only [Op.eqItems, Sem.run_bind, part_u8s w e he xs i hi, part_u8s w e he ys i (by omega), run_equalIn_int w d e .u8 .u8 _ _ he, Result.andThen_ok, List.all_cons]
    cases xs.getD i 0 == ys.getD i 0
    · simp
    · simpa using ih'

theorem run_equalIn_u8s {P : Program} (w : World) (d : Nat) (t e : TypeId) (n : Nat) (ht : P.underlying t = some (.array n e)) (he : P.underlying e = some (.int .u8)) (i : TypeInfo) (hi : P.info? e = some i) (hc : P.cellsOf e = 1)
    (xs ys : List Int) (hx : xs.length = n) (hy : ys.length = n) :
    (Op.equalIn (d + 2) t (.agg (u8s xs)) (.agg (u8s ys))).run P w = .ok (xs == ys) w := by
  rw [run_equalIn_array w (d + 1) (u8s xs) (u8s ys) ht hi, hc, ← hx, eqItems_u8s w d e he xs ys (hx.trans hy.symm) _ (fun k hk => List.mem_range.1 hk), all_at_iff xs ys (hx.trans hy.symm)]

theorem cells5 : Try.prog.cellsOf 5 = 1 := by kernel_rfl
theorem info5_some : (Try.prog.info? 5).isSome = true := by kernel_rfl
theorem info5 : Try.prog.info? 5 = some ((Try.prog.info? 5).get info5_some) := by simp

theorem eq6 (x0 x1 x2 x3 x4 x5 y0 y1 y2 y3 y4 y5 : Int) (w : World) :
    (Op.equalIn 10000 22 (.agg #[.int .u8 x0, .int .u8 x1, .int .u8 x2, .int .u8 x3, .int .u8 x4, .int .u8 x5]) (.agg #[.int .u8 y0, .int .u8 y1, .int .u8 y2, .int .u8 y3, .int .u8 y4, .int .u8 y5])).run Try.prog w = .ok ([x0, x1, x2, x3, x4, x5] == [y0, y1, y2, y3, y4, y5]) w :=
  run_equalIn_u8s (P := Try.prog) w 9998 22 5 6 Try.underlying22 Try.underlying5 _ info5 cells5 [x0, x1, x2, x3, x4, x5] [y0, y1, y2, y3, y4, y5] rfl rfl

theorem eq16 (x0 x1 x2 x3 x4 x5 x6 x7 x8 x9 x10 x11 x12 x13 x14 x15 : Int) (w : World) :
    (Op.equalIn 10000 25 (.agg #[.int .u8 x0, .int .u8 x1, .int .u8 x2, .int .u8 x3, .int .u8 x4, .int .u8 x5, .int .u8 x6, .int .u8 x7, .int .u8 x8, .int .u8 x9, .int .u8 x10, .int .u8 x11, .int .u8 x12, .int .u8 x13, .int .u8 x14, .int .u8 x15]) (.agg #[.int .u8 x0, .int .u8 x1, .int .u8 x2, .int .u8 x3, .int .u8 x4, .int .u8 x5, .int .u8 x6, .int .u8 x7, .int .u8 x8, .int .u8 x9, .int .u8 x10, .int .u8 x11, .int .u8 x12, .int .u8 x13, .int .u8 x14, .int .u8 x15])).run Try.prog w = .ok true w := by
  have h := run_equalIn_u8s (P := Try.prog) w 9998 25 5 16 Try.underlying25 Try.underlying5 _ info5 cells5 [x0, x1, x2, x3, x4, x5, x6, x7, x8, x9, x10, x11, x12, x13, x14, x15] [x0, x1, x2, x3, x4, x5, x6, x7, x8, x9, x10, x11, x12, x13, x14, x15] rfl rfl
  rw [beq_self_eq_true] at h
  exact h
end Go.Proofs.Qxb6629116a
