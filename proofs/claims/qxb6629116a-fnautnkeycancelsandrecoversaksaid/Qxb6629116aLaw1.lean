/-
  The walk of the law FnAUTNUnconcealRoundTrip.
-/
import Derived.Test.Qxb6629116aAutn
import Derived.Test.Qxb6629116aEq
import Derived.Deep.QuietTactic
import Derived.BigQuiet
namespace Go.Proofs.Qxb6629116a
open Go.RowKit

/-- AUTN, its concealed bytes under names of their own. -/
theorem autn_as (s0 s1 s2 s3 s4 s5 a0 a1 a2 a3 a4 a5 c0 c1 c2 c3 c4 c5 f0 f1 m0 m1 m2 m3 m4 m5 m6 m7 : Int) (x0 : bits .xor .u8 s0 a0 = c0) (x1 : bits .xor .u8 s1 a1 = c1) (x2 : bits .xor .u8 s2 a2 = c2) (x3 : bits .xor .u8 s3 a3 = c3) (x4 : bits .xor .u8 s4 a4 = c4) (x5 : bits .xor .u8 s5 a5 = c5) (w : World) :
    Calls Try.prog 5 #[.agg #[.int .u8 s0, .int .u8 s1, .int .u8 s2, .int .u8 s3, .int .u8 s4, .int .u8 s5], .agg #[.int .u8 a0, .int .u8 a1, .int .u8 a2, .int .u8 a3, .int .u8 a4, .int .u8 a5], .agg #[.int .u8 f0, .int .u8 f1], .agg #[.int .u8 m0, .int .u8 m1, .int .u8 m2, .int .u8 m3, .int .u8 m4, .int .u8 m5, .int .u8 m6, .int .u8 m7]] w
      fun e w' => e = .returned (.agg #[.int .u8 c0, .int .u8 c1, .int .u8 c2, .int .u8 c3, .int .u8 c4, .int .u8 c5, .int .u8 f0, .int .u8 f1, .int .u8 m0, .int .u8 m1, .int .u8 m2, .int .u8 m3, .int .u8 m4, .int .u8 m5, .int .u8 m6, .int .u8 m7]) ∧ Below w.heap.size w w' := by
  have h := autn_any s0 s1 s2 s3 s4 s5 a0 a1 a2 a3 a4 a5 f0 f1 m0 m1 m2 m3 m4 m5 m6 m7 w
  rw [x0, x1, x2, x3, x4, x5] at h
  exact h

/-- A row of the world, read again behind two new blocks, behind three. -/
theorem cell2 {V : World} {b : Nat} {t : TypeId} {cs : Array Value} (h : V.heap[b]? = some (.cells cs t (0, 0))) (o1 o2 : Obj) (j : Nat) : ((V.alloc o1).alloc o2).cell? ⟨b, j, none⟩ = cs[j]? := by
  have hb : b < V.heap.size := (Array.getElem?_eq_some_iff.1 h).1
  exact cell_of_row _ b j cs t (0, 0) (by rw [Below.heap_alloc _ _ _ (by simp; omega), Below.heap_alloc _ _ _ hb, h])
theorem cell3 {V : World} {b : Nat} {t : TypeId} {cs : Array Value} (h : V.heap[b]? = some (.cells cs t (0, 0))) (o1 o2 o3 : Obj) (n j : Nat) : ((((V.alloc o1).alloc o2).drewN n).alloc o3).cell? ⟨b, j, none⟩ = cs[j]? := by
  have hb : b < V.heap.size := (Array.getElem?_eq_some_iff.1 h).1
  have e : (((V.alloc o1).alloc o2).drewN n).heap[b]? = some (.cells cs t (0, 0)) := by
    show ((V.alloc o1).alloc o2).heap[b]? = _
    rw [Below.heap_alloc _ _ _ (by simp; omega), Below.heap_alloc _ _ _ hb, h]
  exact cell_of_row _ b j cs t (0, 0) (by rw [Below.heap_alloc _ _ _ (Array.getElem?_eq_some_iff.1 e).1, e])
theorem cell1 {V : World} {b : Nat} {t : TypeId} {cs : Array Value} (h : V.heap[b]? = some (.cells cs t (0, 0))) (o1 : Obj) (j : Nat) : (V.alloc o1).cell? ⟨b, j, none⟩ = cs[j]? := by
  have hb : b < V.heap.size := (Array.getElem?_eq_some_iff.1 h).1
  exact cell_of_row _ b j cs t (0, 0) (by rw [Below.heap_alloc _ _ _ hb, h])
theorem row_on {W w1 : World} (hb : Below W.heap.size W w1) {b : Nat} {o : Obj} (h : W.heap[b]? = some o) : w1.heap[b]? = some o := by
  rw [hb.block b (Array.getElem?_eq_some_iff.1 h).1, h]
theorem row_old {V : World} {b : Nat} {o : Obj} (h : V.heap[b]? = some o) (o1 : Obj) : (V.alloc o1).heap[b]? = some o := by
  rw [Below.heap_alloc _ _ _ (Array.getElem?_eq_some_iff.1 h).1, h]
theorem row_new (V : World) (o : Obj) (b : Nat) (e : b = V.heap.size) : (V.alloc o).heap[b]? = some o := by
  subst e; exact heap_alloc_new _ _

set_option maxHeartbeats 1000000 in
set_option maxRecDepth 100000 in
theorem law1_walk (s0 s1 s2 s3 s4 s5 a0 a1 a2 a3 a4 a5 c0 c1 c2 c3 c4 c5 f0 f1 m0 m1 m2 m3 m4 m5 m6 m7 : Int) (x0 : bits .xor .u8 s0 a0 = c0) (x1 : bits .xor .u8 s1 a1 = c1) (x2 : bits .xor .u8 s2 a2 = c2) (x3 : bits .xor .u8 s3 a3 = c3) (x4 : bits .xor .u8 s4 a4 = c4) (x5 : bits .xor .u8 s5 a5 = c5) (r0 : bits .xor .u8 c0 a0 = s0) (r1 : bits .xor .u8 c1 a1 = s1) (r2 : bits .xor .u8 c2 a2 = s2) (r3 : bits .xor .u8 c3 a3 = s3) (r4 : bits .xor .u8 c4 a4 = s4) (r5 : bits .xor .u8 c5 a5 = s5) (B : Bool) (y1 : ∀ v : World, (Op.equalIn 10000 22 (.agg #[.int .u8 a0, .int .u8 a1, .int .u8 a2, .int .u8 a3, .int .u8 a4, .int .u8 a5]) (.agg #[.int .u8 0, .int .u8 0, .int .u8 0, .int .u8 0, .int .u8 0, .int .u8 0])).run Try.prog v = .ok B v) (y2 : ∀ v : World, (Op.equalIn 10000 22 (.agg #[.int .u8 c0, .int .u8 c1, .int .u8 c2, .int .u8 c3, .int .u8 c4, .int .u8 c5]) (.agg #[.int .u8 s0, .int .u8 s1, .int .u8 s2, .int .u8 s3, .int .u8 s4, .int .u8 s5])).run Try.prog v = .ok B v) (w : World) :
    Calls Try.prog 3 #[.agg #[.int .u8 s0, .int .u8 s1, .int .u8 s2, .int .u8 s3, .int .u8 s4, .int .u8 s5], .agg #[.int .u8 a0, .int .u8 a1, .int .u8 a2, .int .u8 a3, .int .u8 a4, .int .u8 a5], .agg #[.int .u8 f0, .int .u8 f1], .agg #[.int .u8 m0, .int .u8 m1, .int .u8 m2, .int .u8 m3, .int .u8 m4, .int .u8 m5, .int .u8 m6, .int .u8 m7]] w
      fun e w' => e = .returned (.bool true) ∧ Below w.heap.size w w' := by
  go_enter Try.func3, Try.ntmps3
  go_wp2_with fail
  refine (autn_as s0 s1 s2 s3 s4 s5 a0 a1 a2 a3 a4 a5 c0 c1 c2 c3 c4 c5 f0 f1 m0 m1 m2 m3 m4 m5 m6 m7 x0 x1 x2 x3 x4 x5 _).mono ?_
  rintro e w1 ⟨rfl, hb1⟩
  have b0 := row_on hb1 (row_old (row_old (row_old (row_new w (.cells #[.int .u8 s0, .int .u8 s1, .int .u8 s2, .int .u8 s3, .int .u8 s4, .int .u8 s5] 22) (w.heap.size) rfl) _) _) _)
  have b1 := row_on hb1 (row_old (row_old (row_new (w.alloc _) (.cells #[.int .u8 a0, .int .u8 a1, .int .u8 a2, .int .u8 a3, .int .u8 a4, .int .u8 a5] 22) (w.heap.size + 1) (by simp)) _) _)
  have b2 := row_on hb1 (row_old (row_new ((w.alloc _).alloc _) (.cells #[.int .u8 f0, .int .u8 f1] 23) (w.heap.size + 1 + 1) (by simp)) _)
  have b3 := row_on hb1 (row_new (((w.alloc _).alloc _).alloc _) (.cells #[.int .u8 m0, .int .u8 m1, .int .u8 m2, .int .u8 m3, .int .u8 m4, .int .u8 m5, .int .u8 m6, .int .u8 m7] 24) (w.heap.size + 1 + 1 + 1) (by simp))
  have hz1 : w.heap.size + 1 + 1 + 1 < w1.heap.size := by have := hb1.size; simp at this; omega
  have HB1 : Hid (Below w.heap.size w w1) := Below.trans (by repeat (first | exact Below.refl _ _ | apply Below.drew | refine Below.alloc ?_ (by simp <;> omega) _)) (hb1.mono (by simp; omega))
  clear hb1
  have g1 := cell2 b1
  have g2 := cell2 b2
  have g3 := cell2 b3
  have B0 : Hid _ := b0
  have B1 : Hid _ := b1
  have B2 : Hid _ := b2
  have B3 : Hid _ := b3
  clear b0 b1 b2 b3
  go_wp2_with fail
  refine wp_loop_rounds 7 ?_
  iterate 6
    rw [rounds_succ]
    go_wp2_with fail
  rw [rounds_succ]
  go_wp2_with fail
  refine (autn_as c0 c1 c2 c3 c4 c5 a0 a1 a2 a3 a4 a5 s0 s1 s2 s3 s4 s5 f0 f1 m0 m1 m2 m3 m4 m5 m6 m7 r0 r1 r2 r3 r4 r5 _).mono ?_
  rintro e w2 ⟨rfl, hb2⟩
  have d0 := row_on hb2 (row_old (row_old B0.out _) _)
  have d1 := row_on hb2 (row_old (row_old B1.out _) _)
  have d2 := row_on hb2 (row_old (row_old B2.out _) _)
  have d3 := row_on hb2 (row_old (row_old B3.out _) _)
  have d4 := row_on hb2 (row_old (row_new w1 (.cells #[.int .u8 c0, .int .u8 c1, .int .u8 c2, .int .u8 c3, .int .u8 c4, .int .u8 c5, .int .u8 f0, .int .u8 f1, .int .u8 m0, .int .u8 m1, .int .u8 m2, .int .u8 m3, .int .u8 m4, .int .u8 m5, .int .u8 m6, .int .u8 m7] 25) w1.heap.size rfl) _)
  have d5 := row_on hb2 (row_new (w1.alloc _) (.cells #[.int .u8 c0, .int .u8 c1, .int .u8 c2, .int .u8 c3, .int .u8 c4, .int .u8 c5] 22) (w1.heap.size + 1) (by simp))
  have hz2 : w1.heap.size + 1 < w2.heap.size := by have := hb2.size; simp at this; omega
  have HB2 : Hid (Below w.heap.size w w2) := Below.trans (by repeat (first | exact HB1.out | apply Below.drew | refine Below.alloc ?_ (by first | omega | (simp; done) | (simp; omega)) _)) (hb2.mono (by simp; omega))
  clear hb2 B0 B1 B2 B3 HB1 g1 g2 g3
  have e0 := cell2 d0
  have e2 := cell2 d2
  have e3 := cell2 d3
  have e4 := cell2 d4
  have k0 := cell3 d0
  have k1 := cell3 d1
  have k5 := cell3 d5
  clear d0 d1 d2 d3 d4 d5
  go_wp2_with fail
  refine wp_loop_rounds 7 ?_
  iterate 6
    rw [rounds_succ]
    go_wp2_with fail
  rw [rounds_succ]
  go_wp2_with fail
  refine wp_loop_rounds 9 ?_
  iterate 8
    rw [rounds_succ]
    go_wp2_with fail
  rw [rounds_succ]
  have n16 := eq16 s0 s1 s2 s3 s4 s5 f0 f1 m0 m1 m2 m3 m4 m5 m6 m7
  go_wp2_with fail
  clear n16
  refine wp_loop_rounds 11 ?_
  iterate 10
    rw [rounds_succ]
    go_wp2_with fail
    go_quiet (fail)
    go_wp2_with fail
  rw [rounds_succ]
  go_wp2_with fail
  go_ret
  exact ⟨rfl, by repeat (first | exact HB2.out | apply Below.drew | apply below_drewN | refine Below.alloc ?_ (by first | omega | (simp; done) | (simp; omega)) _)⟩
end Go.Proofs.Qxb6629116a
