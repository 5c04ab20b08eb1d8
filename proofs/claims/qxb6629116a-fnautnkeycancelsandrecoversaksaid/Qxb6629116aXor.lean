/-
  The walk of aka.xorSQN: six rounds, each the exclusive or of two bytes.
-/
import Derived.Test.Qxb6629116aRows
import Derived.WalkKit
import Derived.WalkSpells
import Derived.WalkLawsBesides
import Derived.BigRegion
namespace Go.Proofs.Qxb6629116a
open Go.RowKit

set_option maxHeartbeats 1000000 in
set_option maxRecDepth 100000 in
theorem xor_any (s0 s1 s2 s3 s4 s5 a0 a1 a2 a3 a4 a5 : Int) (w : World) :
    Calls Try.prog 6 #[.agg #[.int .u8 s0, .int .u8 s1, .int .u8 s2, .int .u8 s3, .int .u8 s4, .int .u8 s5], .agg #[.int .u8 a0, .int .u8 a1, .int .u8 a2, .int .u8 a3, .int .u8 a4, .int .u8 a5]] w
      fun e w' => e = .returned (.agg #[.int .u8 (bits .xor .u8 s0 a0), .int .u8 (bits .xor .u8 s1 a1), .int .u8 (bits .xor .u8 s2 a2), .int .u8 (bits .xor .u8 s3 a3), .int .u8 (bits .xor .u8 s4 a4), .int .u8 (bits .xor .u8 s5 a5)]) ∧ Below w.heap.size w w' := by
  go_enter Try.func6, Try.ntmps6
  go_wp2
  refine wp_loop_rounds 7 ?_
  iterate 6
    rw [rounds_succ]
    go_wp2
    go_region
    go_wp2
  rw [rounds_succ]
  go_wp2
  exact bodyPost_ret (v := .agg #[.int .u8 (bits .xor .u8 s0 a0), .int .u8 (bits .xor .u8 s1 a1), .int .u8 (bits .xor .u8 s2 a2), .int .u8 (bits .xor .u8 s3 a3), .int .u8 (bits .xor .u8 s4 a4), .int .u8 (bits .xor .u8 s5 a5)]) (by simp [results, Try.results6, go_sem]) rfl ⟨rfl, by repeat (first | exact Below.refl _ _ | apply Below.drew | refine Below.alloc ?_ (by simp <;> omega) _)⟩
end Go.Proofs.Qxb6629116a
