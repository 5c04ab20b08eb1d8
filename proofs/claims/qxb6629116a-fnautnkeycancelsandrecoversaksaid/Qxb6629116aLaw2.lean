/-
  The walk of the law FnAUTNKeyCancelsAndRecoversAK.
-/
import Derived.Test.Qxb6629116aLaw1
namespace Go.Proofs.Qxb6629116a
open Go.RowKit

theorem cell2d {V : World} {b : Nat} {t : TypeId} {cs : Array Value} (h : V.heap[b]? = some (.cells cs t (0, 0))) (o1 o2 : Obj) (n j : Nat) : (((V.alloc o1).drewN n).alloc o2).cell? ⟨b, j, none⟩ = cs[j]? := by
  have hb : b < V.heap.size := (Array.getElem?_eq_some_iff.1 h).1
  have e : ((V.alloc o1).drewN n).heap[b]? = some (.cells cs t (0, 0)) := by
    show (V.alloc o1).heap[b]? = _
    rw [Below.heap_alloc _ _ _ hb, h]
  exact cell_of_row _ b j cs t (0, 0) (by rw [Below.heap_alloc _ _ _ (Array.getElem?_eq_some_iff.1 e).1, e])
theorem row_drewN {V : World} {b : Nat} {o : Obj} (h : V.heap[b]? = some o) (n : Nat) : (V.drewN n).heap[b]? = some o := h

set_option maxHeartbeats 2000000 in
set_option maxRecDepth 100000 in
theorem law2_walk (s0 s1 s2 s3 s4 s5 u0 u1 u2 u3 u4 u5 a0 a1 a2 a3 a4 a5 c0 c1 c2 c3 c4 c5 d0 d1 d2 d3 d4 d5 e0n e1n e2n e3n e4n e5n f0 f1 m0 m1 m2 m3 m4 m5 m6 m7 : Int) (x0 : bits .xor .u8 s0 a0 = c0) (x1 : bits .xor .u8 s1 a1 = c1) (x2 : bits .xor .u8 s2 a2 = c2) (x3 : bits .xor .u8 s3 a3 = c3) (x4 : bits .xor .u8 s4 a4 = c4) (x5 : bits .xor .u8 s5 a5 = c5) (y0 : bits .xor .u8 u0 a0 = d0) (y1 : bits .xor .u8 u1 a1 = d1) (y2 : bits .xor .u8 u2 a2 = d2) (y3 : bits .xor .u8 u3 a3 = d3) (y4 : bits .xor .u8 u4 a4 = d4) (y5 : bits .xor .u8 u5 a5 = d5) (z0 : bits .xor .u8 s0 c0 = a0) (z1 : bits .xor .u8 s1 c1 = a1) (z2 : bits .xor .u8 s2 c2 = a2) (z3 : bits .xor .u8 s3 c3 = a3) (z4 : bits .xor .u8 s4 c4 = a4) (z5 : bits .xor .u8 s5 c5 = a5) (e0 : bits .xor .u8 c0 d0 = e0n) (o0 : bits .xor .u8 s0 u0 = e0n) (e1 : bits .xor .u8 c1 d1 = e1n) (o1 : bits .xor .u8 s1 u1 = e1n) (e2 : bits .xor .u8 c2 d2 = e2n) (o2 : bits .xor .u8 s2 u2 = e2n) (e3 : bits .xor .u8 c3 d3 = e3n) (o3 : bits .xor .u8 s3 u3 = e3n) (e4 : bits .xor .u8 c4 d4 = e4n) (o4 : bits .xor .u8 s4 u4 = e4n) (e5 : bits .xor .u8 c5 d5 = e5n) (o5 : bits .xor .u8 s5 u5 = e5n) (w : World) :
    Calls Try.prog 4 #[.agg #[.int .u8 s0, .int .u8 s1, .int .u8 s2, .int .u8 s3, .int .u8 s4, .int .u8 s5], .agg #[.int .u8 u0, .int .u8 u1, .int .u8 u2, .int .u8 u3, .int .u8 u4, .int .u8 u5], .agg #[.int .u8 a0, .int .u8 a1, .int .u8 a2, .int .u8 a3, .int .u8 a4, .int .u8 a5], .agg #[.int .u8 f0, .int .u8 f1], .agg #[.int .u8 m0, .int .u8 m1, .int .u8 m2, .int .u8 m3, .int .u8 m4, .int .u8 m5, .int .u8 m6, .int .u8 m7]] w
      fun e w' => e = .returned (.bool true) ∧ Below w.heap.size w w' := by
  go_enter Try.func4, Try.ntmps4
  go_wp2_with fail
  refine (autn_as s0 s1 s2 s3 s4 s5 a0 a1 a2 a3 a4 a5 c0 c1 c2 c3 c4 c5 f0 f1 m0 m1 m2 m3 m4 m5 m6 m7 x0 x1 x2 x3 x4 x5 _).mono ?_
  rintro e w1 ⟨rfl, hb1⟩
  have b0 := row_on hb1 (row_old (row_old (row_old (row_old (row_new w (.cells #[.int .u8 s0, .int .u8 s1, .int .u8 s2, .int .u8 s3, .int .u8 s4, .int .u8 s5] 22) (w.heap.size) rfl) _) _) _) _)
  have b1 := row_on hb1 (row_old (row_old (row_old (row_new (w.alloc _) (.cells #[.int .u8 u0, .int .u8 u1, .int .u8 u2, .int .u8 u3, .int .u8 u4, .int .u8 u5] 22) (w.heap.size + 1) (by simp)) _) _) _)
  have b2 := row_on hb1 (row_old (row_old (row_new ((w.alloc _).alloc _) (.cells #[.int .u8 a0, .int .u8 a1, .int .u8 a2, .int .u8 a3, .int .u8 a4, .int .u8 a5] 22) (w.heap.size + 1 + 1) (by simp)) _) _)
  have b3 := row_on hb1 (row_old (row_new (((w.alloc _).alloc _).alloc _) (.cells #[.int .u8 f0, .int .u8 f1] 23) (w.heap.size + 1 + 1 + 1) (by simp)) _)
  have b4 := row_on hb1 (row_new ((((w.alloc _).alloc _).alloc _).alloc _) (.cells #[.int .u8 m0, .int .u8 m1, .int .u8 m2, .int .u8 m3, .int .u8 m4, .int .u8 m5, .int .u8 m6, .int .u8 m7] 24) (w.heap.size + 1 + 1 + 1 + 1) (by simp))
  have hz1 : w.heap.size + 1 + 1 + 1 + 1 < w1.heap.size := by have := hb1.size; simp at this; omega
  have HB1 : Hid (Below w.heap.size w w1) := Below.trans (by repeat (first | exact Below.refl _ _ | apply Below.drew | refine Below.alloc ?_ (by simp <;> omega) _)) (hb1.mono (by simp; omega))
  clear hb1
  have g1 := cell1 b1
  have g2 := cell1 b2
  have g3 := cell1 b3
  have g4 := cell1 b4
  have B0 : Hid _ := b0
  have B1 : Hid _ := b1
  have B2 : Hid _ := b2
  have B3 : Hid _ := b3
  have B4 : Hid _ := b4
  clear b0 b1 b2 b3 b4
  go_wp2_with fail
  refine (autn_as u0 u1 u2 u3 u4 u5 a0 a1 a2 a3 a4 a5 d0 d1 d2 d3 d4 d5 f0 f1 m0 m1 m2 m3 m4 m5 m6 m7 y0 y1 y2 y3 y4 y5 _).mono ?_
  rintro e w2 ⟨rfl, hb2⟩
  have d0 := row_on hb2 (row_old B0.out _)
  have d1 := row_on hb2 (row_old B1.out _)
  have d2 := row_on hb2 (row_old B2.out _)
  have d3 := row_on hb2 (row_old B3.out _)
  have d4 := row_on hb2 (row_old B4.out _)
  have d5 := row_on hb2 (row_new w1 (.cells #[.int .u8 c0, .int .u8 c1, .int .u8 c2, .int .u8 c3, .int .u8 c4, .int .u8 c5, .int .u8 f0, .int .u8 f1, .int .u8 m0, .int .u8 m1, .int .u8 m2, .int .u8 m3, .int .u8 m4, .int .u8 m5, .int .u8 m6, .int .u8 m7] 25) w1.heap.size rfl)
  have hz2 : w1.heap.size < w2.heap.size := by have := hb2.size; simp at this; omega
  have HB2 : Hid (Below w.heap.size w w2) := Below.trans (by repeat (first | exact HB1.out | apply Below.drew | refine Below.alloc ?_ (by first | omega | (simp; done) | (simp; omega)) _)) (hb2.mono (by simp; omega))
  clear hb2 B0 B1 B2 B3 B4 HB1 g1 g2 g3 g4
  have p0 := cell1 d0
  have p1 := cell1 d1
  have p5 := cell1 d5
  have k0 := cell2d d0
  have k3 := cell2d d3
  have k4 := cell2d d4
  have k5 := cell2d d5
  have D2 : Hid _ := d2
  clear d0 d1 d2 d3 d4 d5
  go_wp2_with fail
  refine wp_loop_rounds 7 ?_
  iterate 6
    rw [rounds_succ]
    go_wp2_with fail
    go_quiet (fail)
    go_wp2_with fail
  rw [rounds_succ]
  go_wp2_with fail
  refine wp_loop_rounds 11 ?_
  iterate 10
    rw [rounds_succ]
    go_wp2_with fail
    go_quiet (fail)
    go_wp2_with fail
  rw [rounds_succ]
  go_wp2_with fail
  refine wp_loop_rounds 7 ?_
  iterate 6
    rw [rounds_succ]
    go_wp2_with fail
  rw [rounds_succ]
  go_wp2_with fail
  refine (autn_as s0 s1 s2 s3 s4 s5 c0 c1 c2 c3 c4 c5 a0 a1 a2 a3 a4 a5 f0 f1 m0 m1 m2 m3 m4 m5 m6 m7 z0 z1 z2 z3 z4 z5 _).mono ?_
  rintro e w3 ⟨rfl, hb3⟩
  have q2 := row_on hb3 (row_old (row_drewN (row_old D2.out _) _) _)
  have hz3 : w2.heap.size < w3.heap.size := by have := hb3.size; simp at this; omega
  have HB3 : Hid (Below w.heap.size w w3) := Below.trans (by repeat (first | exact HB2.out | apply Below.drew | apply below_drewN | refine Below.alloc ?_ (by first | omega | (simp; done) | (simp; omega)) _)) (hb3.mono (by simp; omega))
  clear hb3 D2 HB2 p0 p1 p5 k0 k3 k4 k5
  have s2 := cell1 q2
  clear q2
  go_wp2_with fail
  refine wp_loop_rounds 7 ?_
  iterate 6
    rw [rounds_succ]
    go_wp2_with fail
    go_quiet (fail)
    go_wp2_with fail
  rw [rounds_succ]
  go_wp2_with fail
  go_ret
  exact ⟨rfl, by repeat (first | exact HB3.out | apply Below.drew | apply below_drewN | refine Below.alloc ?_ (by first | omega | (simp; done) | (simp; omega)) _)⟩
end Go.Proofs.Qxb6629116a
