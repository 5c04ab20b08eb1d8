/-
  The walk of aka.AUTN.
-/
import Derived.Test.Qxb6629116aXor
import Derived.Laws.CopyOwn
namespace Go.Proofs.Qxb6629116a
open Go.RowKit

theorem setRow_alloc_last (W : World) (cur cs : Array Value) (t : TypeId) : (W.alloc (.cells cur t)).setRow W.heap.size cs = W.alloc (.cells cs t) := by
  cases W with
  | mk heap tape drawn os output =>
    simp only [World.setRow, World.alloc]
    congr 1
    apply Array.ext
    · simp
    · intro k h1 h2
      simp only [Array.getElem_modify]
      split
      · rename_i hk; subst hk; simp
      · simp [Array.getElem_push]
        split
        · rfl
        · simp at h2; omega

/-- 'copy' into the block that was laid last, from cells that are known. -/
theorem copy_last (W : World) (cur cs out : List Value) (t : TypeId) (g off dLen dCap : Nat) (a : Addr) (sLen sCap : Nat) (k : Int) (hg : g = W.heap.size) (hn : cs.length = Nat.min sLen dLen) (hk : k = cs.length)
    (hsrc : ∀ j v, cs[j]? = some v → (W.alloc (.cells cur.toArray t)).cell? (a.add j) = some v) (hfit : off + cs.length ≤ cur.length) (h1 : ∀ v ∈ cs, v.oneCell' = true)
    (hout : cur.take off ++ cs ++ cur.drop (off + cs.length) = out) :
    Sem.run Try.prog (Builtin.copy_ #[30, 30] 3 #[.slice (some ⟨g, off, none⟩) dLen dCap, .slice (some a) sLen sCap]) (W.alloc (.cells cur.toArray t)) = .ok (.int .i64 k) (W.alloc (.cells out.toArray t)) := by
  subst hg hk hout
  have h := run_copy_row (P := Try.prog) (W.alloc (.cells cur.toArray t)) 30 30 3 5 W.heap.size off dLen dCap a sLen sCap cur.toArray t cs Try.underlying30 (by kernel_rfl) (by show (W.heap.push _)[W.heap.size]? = _; simp) hn hsrc (by simpa using hfit) h1
  rw [h, setRow_alloc_last]
  rfl


theorem cells_of_row (V : World) (b : Nat) (o : Obj) (cs : List Value) (hb : b < V.heap.size) (hc : ∀ j, j < cs.length → V.cell? ⟨b, j, none⟩ = cs[j]?) : ∀ j v, cs[j]? = some v → (V.alloc o).cell? ((⟨b, 0, none⟩ : Addr).add j) = some v := by
  intro j v hv
  have hj : j < cs.length := (List.getElem?_eq_some_iff.1 hv).1
  have e : (⟨b, 0, none⟩ : Addr).add j = ⟨b, j, none⟩ := by unfold Addr.add; split <;> simp_all
  rw [e, World.cell?_of_block (w := V) (Below.heap_alloc V o b hb), hc j hj, hv]

theorem cell_last (V : World) (cs : List Value) (t : TypeId) (j : Nat) : (V.alloc (.cells cs.toArray t)).cell? ⟨V.heap.size, j, none⟩ = cs[j]? := by
  have h : (V.alloc (.cells cs.toArray t)).heap[V.heap.size]? = some (.cells cs.toArray t) := by show (V.heap.push _)[V.heap.size]? = _; simp
  unfold World.cell?
  rw [h]
  simp

theorem old_cell {W w1 : World} (hb : Below W.heap.size W w1) (o : Obj) (b j : Nat) (h : b < W.heap.size) : (w1.alloc o).cell? ⟨b, j, none⟩ = W.cell? ⟨b, j, none⟩ := by
  rw [World.cell?_of_block (w := w1) (Below.heap_alloc w1 o b (Nat.lt_of_lt_of_le h hb.size))]
  exact hb.cell (p := ⟨b, j, none⟩) h

theorem cell_third (V : World) (cs : List Value) (t : TypeId) (o1 o2 : Obj) (b j : Nat) (hb : b = V.heap.size) : (((V.alloc (.cells cs.toArray t)).alloc o1).alloc o2).cell? ⟨b, j, none⟩ = cs[j]? := by
  subst hb
  rw [World.cell?_of_block (w := (V.alloc (.cells cs.toArray t)).alloc o1) (Below.heap_alloc _ _ _ (by simp; omega)), World.cell?_of_block (w := V.alloc (.cells cs.toArray t)) (Below.heap_alloc _ _ _ (by simp))]
  exact cell_last V cs t j

theorem cell_second (V : World) (cs : List Value) (t : TypeId) (o1 : Obj) (b j : Nat) (hb : b = V.heap.size) : ((V.alloc (.cells cs.toArray t)).alloc o1).cell? ⟨b, j, none⟩ = cs[j]? := by
  subst hb
  rw [World.cell?_of_block (w := V.alloc (.cells cs.toArray t)) (Below.heap_alloc _ _ _ (by simp))]
  exact cell_last V cs t j

theorem row_kept {W w1 : World} {cs : Array Value} {t : TypeId} (hb : Below (W.alloc (.cells cs t)).heap.size (W.alloc (.cells cs t)) w1) (b : Nat) (e : b = W.heap.size) (o1 o2 : Obj) : ((w1.alloc o1).alloc o2).heap[b]? = some (.cells cs t (0, 0)) := by
  subst e
  have h1 := hb.size
  simp at h1
  rw [Below.heap_alloc _ _ _ (by simp; omega), Below.heap_alloc _ _ _ (by omega), hb.block _ (by simp)]
  exact heap_alloc_new _ _

theorem all16 (y0 y1 y2 y3 y4 y5 y6 y7 y8 y9 y10 y11 y12 y13 y14 y15 : Int) : (#[.int .u8 y0, .int .u8 y1, .int .u8 y2, .int .u8 y3, .int .u8 y4, .int .u8 y5, .int .u8 y6, .int .u8 y7, .int .u8 y8, .int .u8 y9, .int .u8 y10, .int .u8 y11, .int .u8 y12, .int .u8 y13, .int .u8 y14, .int .u8 y15] : Array Value).all (·.oneCell') = true := by simp [Value.oneCell']

theorem cp1 (V : World) (x0 x1 x2 x3 x4 x5 : Int) :
    Sem.run Try.prog (Builtin.copy_ #[30, 30] 3 #[.slice (some ⟨V.heap.size + 1, 0, none⟩) 6 16, .slice (some ⟨V.heap.size, 0, none⟩) 6 6]) ((V.alloc (.cells #[.int .u8 x0, .int .u8 x1, .int .u8 x2, .int .u8 x3, .int .u8 x4, .int .u8 x5] 22)).alloc (.cells #[.int .u8 0, .int .u8 0, .int .u8 0, .int .u8 0, .int .u8 0, .int .u8 0, .int .u8 0, .int .u8 0, .int .u8 0, .int .u8 0, .int .u8 0, .int .u8 0, .int .u8 0, .int .u8 0, .int .u8 0, .int .u8 0] 25)).drew
      = .ok (.int .i64 6) ((V.alloc (.cells #[.int .u8 x0, .int .u8 x1, .int .u8 x2, .int .u8 x3, .int .u8 x4, .int .u8 x5] 22)).alloc (.cells #[.int .u8 x0, .int .u8 x1, .int .u8 x2, .int .u8 x3, .int .u8 x4, .int .u8 x5, .int .u8 0, .int .u8 0, .int .u8 0, .int .u8 0, .int .u8 0, .int .u8 0, .int .u8 0, .int .u8 0, .int .u8 0, .int .u8 0] 25)).drew :=
  copy_last (V.alloc (.cells #[.int .u8 x0, .int .u8 x1, .int .u8 x2, .int .u8 x3, .int .u8 x4, .int .u8 x5] 22)).drew [.int .u8 0, .int .u8 0, .int .u8 0, .int .u8 0, .int .u8 0, .int .u8 0, .int .u8 0, .int .u8 0, .int .u8 0, .int .u8 0, .int .u8 0, .int .u8 0, .int .u8 0, .int .u8 0, .int .u8 0, .int .u8 0] [.int .u8 x0, .int .u8 x1, .int .u8 x2, .int .u8 x3, .int .u8 x4, .int .u8 x5] [.int .u8 x0, .int .u8 x1, .int .u8 x2, .int .u8 x3, .int .u8 x4, .int .u8 x5, .int .u8 0, .int .u8 0, .int .u8 0, .int .u8 0, .int .u8 0, .int .u8 0, .int .u8 0, .int .u8 0, .int .u8 0, .int .u8 0] 25 (V.heap.size + 1) 0 6 16 ⟨V.heap.size, 0, none⟩ 6 6 6 (by simp) rfl rfl
    (cells_of_row (V.alloc (.cells #[.int .u8 x0, .int .u8 x1, .int .u8 x2, .int .u8 x3, .int .u8 x4, .int .u8 x5] 22)).drew V.heap.size _ _ (by simp) (fun j _ => cell_last V [.int .u8 x0, .int .u8 x1, .int .u8 x2, .int .u8 x3, .int .u8 x4, .int .u8 x5] 22 j)) (by simp) (by simp [Value.oneCell']) rfl

theorem cp2 (V : World) (b : Nat) (hb : b < V.heap.size) (x0 x1 x2 x3 x4 x5 f0 f1 : Int) (h0 : V.cell? ⟨b, 0, none⟩ = some (.int .u8 f0)) (h1 : V.cell? ⟨b, 1, none⟩ = some (.int .u8 f1)) :
    Sem.run Try.prog (Builtin.copy_ #[30, 30] 3 #[.slice (some ⟨V.heap.size, 6, none⟩) 2 10, .slice (some ⟨b, 0, none⟩) 2 2]) (V.alloc (.cells #[.int .u8 x0, .int .u8 x1, .int .u8 x2, .int .u8 x3, .int .u8 x4, .int .u8 x5, .int .u8 0, .int .u8 0, .int .u8 0, .int .u8 0, .int .u8 0, .int .u8 0, .int .u8 0, .int .u8 0, .int .u8 0, .int .u8 0] 25)).drew.drew
      = .ok (.int .i64 2) (V.alloc (.cells #[.int .u8 x0, .int .u8 x1, .int .u8 x2, .int .u8 x3, .int .u8 x4, .int .u8 x5, .int .u8 f0, .int .u8 f1, .int .u8 0, .int .u8 0, .int .u8 0, .int .u8 0, .int .u8 0, .int .u8 0, .int .u8 0, .int .u8 0] 25)).drew.drew :=
  copy_last V.drew.drew [.int .u8 x0, .int .u8 x1, .int .u8 x2, .int .u8 x3, .int .u8 x4, .int .u8 x5, .int .u8 0, .int .u8 0, .int .u8 0, .int .u8 0, .int .u8 0, .int .u8 0, .int .u8 0, .int .u8 0, .int .u8 0, .int .u8 0] [.int .u8 f0, .int .u8 f1] [.int .u8 x0, .int .u8 x1, .int .u8 x2, .int .u8 x3, .int .u8 x4, .int .u8 x5, .int .u8 f0, .int .u8 f1, .int .u8 0, .int .u8 0, .int .u8 0, .int .u8 0, .int .u8 0, .int .u8 0, .int .u8 0, .int .u8 0] 25 V.heap.size 6 2 10 ⟨b, 0, none⟩ 2 2 2 rfl rfl rfl
    (cells_of_row V.drew.drew b _ _ hb (fun j hj => by
      match j, hj with
      | 0, _ => exact h0
      | 1, _ => exact h1)) (by simp) (by simp [Value.oneCell']) rfl

theorem cp3 (V : World) (b : Nat) (hb : b < V.heap.size) (x0 x1 x2 x3 x4 x5 f0 f1 m0 m1 m2 m3 m4 m5 m6 m7 : Int) (h0 : V.cell? ⟨b, 0, none⟩ = some (.int .u8 m0)) (h1 : V.cell? ⟨b, 1, none⟩ = some (.int .u8 m1)) (h2 : V.cell? ⟨b, 2, none⟩ = some (.int .u8 m2)) (h3 : V.cell? ⟨b, 3, none⟩ = some (.int .u8 m3)) (h4 : V.cell? ⟨b, 4, none⟩ = some (.int .u8 m4)) (h5 : V.cell? ⟨b, 5, none⟩ = some (.int .u8 m5)) (h6 : V.cell? ⟨b, 6, none⟩ = some (.int .u8 m6)) (h7 : V.cell? ⟨b, 7, none⟩ = some (.int .u8 m7)) :
    Sem.run Try.prog (Builtin.copy_ #[30, 30] 3 #[.slice (some ⟨V.heap.size, 8, none⟩) 8 8, .slice (some ⟨b, 0, none⟩) 8 8]) (V.alloc (.cells #[.int .u8 x0, .int .u8 x1, .int .u8 x2, .int .u8 x3, .int .u8 x4, .int .u8 x5, .int .u8 f0, .int .u8 f1, .int .u8 0, .int .u8 0, .int .u8 0, .int .u8 0, .int .u8 0, .int .u8 0, .int .u8 0, .int .u8 0] 25)).drew.drew.drew
      = .ok (.int .i64 8) (V.alloc (.cells #[.int .u8 x0, .int .u8 x1, .int .u8 x2, .int .u8 x3, .int .u8 x4, .int .u8 x5, .int .u8 f0, .int .u8 f1, .int .u8 m0, .int .u8 m1, .int .u8 m2, .int .u8 m3, .int .u8 m4, .int .u8 m5, .int .u8 m6, .int .u8 m7] 25)).drew.drew.drew :=
  copy_last V.drew.drew.drew [.int .u8 x0, .int .u8 x1, .int .u8 x2, .int .u8 x3, .int .u8 x4, .int .u8 x5, .int .u8 f0, .int .u8 f1, .int .u8 0, .int .u8 0, .int .u8 0, .int .u8 0, .int .u8 0, .int .u8 0, .int .u8 0, .int .u8 0] [.int .u8 m0, .int .u8 m1, .int .u8 m2, .int .u8 m3, .int .u8 m4, .int .u8 m5, .int .u8 m6, .int .u8 m7] [.int .u8 x0, .int .u8 x1, .int .u8 x2, .int .u8 x3, .int .u8 x4, .int .u8 x5, .int .u8 f0, .int .u8 f1, .int .u8 m0, .int .u8 m1, .int .u8 m2, .int .u8 m3, .int .u8 m4, .int .u8 m5, .int .u8 m6, .int .u8 m7] 25 V.heap.size 8 8 8 ⟨b, 0, none⟩ 8 8 8 rfl rfl rfl
    (cells_of_row V.drew.drew.drew b _ _ hb (fun j hj => by
      match j, hj with
      | 0, _ => exact h0
      | 1, _ => exact h1
      | 2, _ => exact h2
      | 3, _ => exact h3
      | 4, _ => exact h4
      | 5, _ => exact h5
      | 6, _ => exact h6
      | 7, _ => exact h7)) (by simp) (by simp [Value.oneCell']) rfl

set_option maxHeartbeats 1000000 in
set_option maxRecDepth 100000 in
theorem autn_any (s0 s1 s2 s3 s4 s5 a0 a1 a2 a3 a4 a5 f0 f1 m0 m1 m2 m3 m4 m5 m6 m7 : Int) (w : World) :
    Calls Try.prog 5 #[.agg #[.int .u8 s0, .int .u8 s1, .int .u8 s2, .int .u8 s3, .int .u8 s4, .int .u8 s5], .agg #[.int .u8 a0, .int .u8 a1, .int .u8 a2, .int .u8 a3, .int .u8 a4, .int .u8 a5], .agg #[.int .u8 f0, .int .u8 f1], .agg #[.int .u8 m0, .int .u8 m1, .int .u8 m2, .int .u8 m3, .int .u8 m4, .int .u8 m5, .int .u8 m6, .int .u8 m7]] w
      fun e w' => e = .returned (.agg #[.int .u8 (bits .xor .u8 s0 a0), .int .u8 (bits .xor .u8 s1 a1), .int .u8 (bits .xor .u8 s2 a2), .int .u8 (bits .xor .u8 s3 a3), .int .u8 (bits .xor .u8 s4 a4), .int .u8 (bits .xor .u8 s5 a5), .int .u8 f0, .int .u8 f1, .int .u8 m0, .int .u8 m1, .int .u8 m2, .int .u8 m3, .int .u8 m4, .int .u8 m5, .int .u8 m6, .int .u8 m7]) ∧ Below w.heap.size w w' := by
  go_enter Try.func5, Try.ntmps5
  go_wp2_with (go_at_call 6; refine (xor_any _ _ _ _ _ _ _ _ _ _ _ _ _).mono ?_; rintro e w1 ⟨rfl, hb⟩)
  have hz : w.heap.size + 1 + 1 + 1 + 1 < w1.heap.size := by have := hb.size; simp at this; omega
  have fc : ∀ j, (w1.alloc (.cells #[.int .u8 (bits .xor .u8 s0 a0), .int .u8 (bits .xor .u8 s1 a1), .int .u8 (bits .xor .u8 s2 a2), .int .u8 (bits .xor .u8 s3 a3), .int .u8 (bits .xor .u8 s4 a4), .int .u8 (bits .xor .u8 s5 a5)] 22)).cell? ⟨w.heap.size + 1 + 1, j, none⟩ = ([.int .u8 f0, .int .u8 f1] : List Value)[j]? := fun j => (old_cell hb (.cells #[.int .u8 (bits .xor .u8 s0 a0), .int .u8 (bits .xor .u8 s1 a1), .int .u8 (bits .xor .u8 s2 a2), .int .u8 (bits .xor .u8 s3 a3), .int .u8 (bits .xor .u8 s4 a4), .int .u8 (bits .xor .u8 s5 a5)] 22) (w.heap.size + 1 + 1) j (by simp)).trans (cell_third ((w.alloc (.cells #[.int .u8 s0, .int .u8 s1, .int .u8 s2, .int .u8 s3, .int .u8 s4, .int .u8 s5] 22)).alloc (.cells #[.int .u8 a0, .int .u8 a1, .int .u8 a2, .int .u8 a3, .int .u8 a4, .int .u8 a5] 22)) [.int .u8 f0, .int .u8 f1] 23 _ _ _ j (by simp))
  have mc : ∀ j, (w1.alloc (.cells #[.int .u8 (bits .xor .u8 s0 a0), .int .u8 (bits .xor .u8 s1 a1), .int .u8 (bits .xor .u8 s2 a2), .int .u8 (bits .xor .u8 s3 a3), .int .u8 (bits .xor .u8 s4 a4), .int .u8 (bits .xor .u8 s5 a5)] 22)).cell? ⟨w.heap.size + 1 + 1 + 1, j, none⟩ = ([.int .u8 m0, .int .u8 m1, .int .u8 m2, .int .u8 m3, .int .u8 m4, .int .u8 m5, .int .u8 m6, .int .u8 m7] : List Value)[j]? := fun j => (old_cell hb (.cells #[.int .u8 (bits .xor .u8 s0 a0), .int .u8 (bits .xor .u8 s1 a1), .int .u8 (bits .xor .u8 s2 a2), .int .u8 (bits .xor .u8 s3 a3), .int .u8 (bits .xor .u8 s4 a4), .int .u8 (bits .xor .u8 s5 a5)] 22) (w.heap.size + 1 + 1 + 1) j (by simp)).trans (cell_second (((w.alloc (.cells #[.int .u8 s0, .int .u8 s1, .int .u8 s2, .int .u8 s3, .int .u8 s4, .int .u8 s5] 22)).alloc (.cells #[.int .u8 a0, .int .u8 a1, .int .u8 a2, .int .u8 a3, .int .u8 a4, .int .u8 a5] 22)).alloc (.cells #[.int .u8 f0, .int .u8 f1] 23)) [.int .u8 m0, .int .u8 m1, .int .u8 m2, .int .u8 m3, .int .u8 m4, .int .u8 m5, .int .u8 m6, .int .u8 m7] 24 _ _ j (by simp))
  have k1 := cp1 w1 (bits .xor .u8 s0 a0) (bits .xor .u8 s1 a1) (bits .xor .u8 s2 a2) (bits .xor .u8 s3 a3) (bits .xor .u8 s4 a4) (bits .xor .u8 s5 a5)
  have k2 := cp2 (w1.alloc (.cells #[.int .u8 (bits .xor .u8 s0 a0), .int .u8 (bits .xor .u8 s1 a1), .int .u8 (bits .xor .u8 s2 a2), .int .u8 (bits .xor .u8 s3 a3), .int .u8 (bits .xor .u8 s4 a4), .int .u8 (bits .xor .u8 s5 a5)] 22)) (w.heap.size + 1 + 1) (by simp; omega) (bits .xor .u8 s0 a0) (bits .xor .u8 s1 a1) (bits .xor .u8 s2 a2) (bits .xor .u8 s3 a3) (bits .xor .u8 s4 a4) (bits .xor .u8 s5 a5) f0 f1 (fc 0) (fc 1)
  have k3 := cp3 (w1.alloc (.cells #[.int .u8 (bits .xor .u8 s0 a0), .int .u8 (bits .xor .u8 s1 a1), .int .u8 (bits .xor .u8 s2 a2), .int .u8 (bits .xor .u8 s3 a3), .int .u8 (bits .xor .u8 s4 a4), .int .u8 (bits .xor .u8 s5 a5)] 22)) (w.heap.size + 1 + 1 + 1) (by simp; omega) (bits .xor .u8 s0 a0) (bits .xor .u8 s1 a1) (bits .xor .u8 s2 a2) (bits .xor .u8 s3 a3) (bits .xor .u8 s4 a4) (bits .xor .u8 s5 a5) f0 f1 m0 m1 m2 m3 m4 m5 m6 m7 (mc 0) (mc 1) (mc 2) (mc 3) (mc 4) (mc 5) (mc 6) (mc 7)
  have e1 : (w1.alloc (.cells #[.int .u8 (bits .xor .u8 s0 a0), .int .u8 (bits .xor .u8 s1 a1), .int .u8 (bits .xor .u8 s2 a2), .int .u8 (bits .xor .u8 s3 a3), .int .u8 (bits .xor .u8 s4 a4), .int .u8 (bits .xor .u8 s5 a5)] 22)).heap.size = w1.heap.size + 1 := by simp
  rw [e1] at k2 k3
  have HR : Hid (∀ o1 o2 : Obj, _) := row_kept hb (w.heap.size + 1 + 1 + 1 + 1) (by simp)
  have hB := hb.mono (B' := w.heap.size) (by simp; omega)
  have HB : Hid (Below w.heap.size w w1) := Below.trans (by repeat (first | exact Below.refl _ _ | apply Below.drew | refine Below.alloc ?_ (by simp <;> omega) _)) hB
  clear fc mc e1 hb hB
  go_region
  go_wp2
  go_region
  go_wp2
  go_region
  clear k1 k2 k3
  go_wp2_with (refine wpList_store_row rfl 25 (.tmp 8) (.tmp 23) rfl (w.heap.size + 1 + 1 + 1 + 1) _ rfl rfl 25 _ (HR.out _ _) (by kernel_rfl) rfl (all16 (bits .xor .u8 s0 a0) (bits .xor .u8 s1 a1) (bits .xor .u8 s2 a2) (bits .xor .u8 s3 a3) (bits .xor .u8 s4 a4) (bits .xor .u8 s5 a5) f0 f1 m0 m1 m2 m3 m4 m5 m6 m7) ?_)
  refine bodyPost_ret (v := .agg #[.int .u8 (bits .xor .u8 s0 a0), .int .u8 (bits .xor .u8 s1 a1), .int .u8 (bits .xor .u8 s2 a2), .int .u8 (bits .xor .u8 s3 a3), .int .u8 (bits .xor .u8 s4 a4), .int .u8 (bits .xor .u8 s5 a5), .int .u8 f0, .int .u8 f1, .int .u8 m0, .int .u8 m1, .int .u8 m2, .int .u8 m3, .int .u8 m4, .int .u8 m5, .int .u8 m6, .int .u8 m7]) (results_cell_row Try.results5 _ _ (w.heap.size + 1 + 1 + 1 + 1) 25 _ (0, 0) _ rfl (setRow_heap _ _ _ _ _ _ (HR.out _ _)) Try.underlying25 rfl (by kernel_rfl)) rfl ⟨rfl, ?_⟩
  exact below_setRow (by repeat (first | exact HB.out | apply Below.drew | refine Below.alloc ?_ (by first | omega | (simp; done) | (simp; omega)) _)) (by omega) _
end Go.Proofs.Qxb6629116a
