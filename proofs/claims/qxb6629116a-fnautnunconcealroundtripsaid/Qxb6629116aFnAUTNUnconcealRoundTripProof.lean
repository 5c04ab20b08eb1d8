/-
  'Rows.FnAUTNUnconcealRoundTripSaid', PROVED.
-/
import Derived.Test.Qxb6629116aLaw1
import Derived.Test.Qxb6629116aPlain
import Derived.Test.Qxb6629116aOpen
import Derived.ChangeOld
namespace Go.Proofs.Qxb6629116a.fnAUTNUnconcealRoundTrip
open Go.ChangeShapes Go.WideShapes Go.ChangeAt Go.RowKit
set_option linter.unusedVariables false

theorem own : ownKnob Try.prog.godebug = none := by kernel_rfl
theorem laidOut : laidOutB Try.prog = true := by kernel_rfl
theorem cells5 : Try.prog.cellsOf 5 = 1 := by kernel_rfl
theorem cells22 : Try.prog.cellsOf 22 = 6 := by kernel_rfl
theorem cells23 : Try.prog.cellsOf 23 = 2 := by kernel_rfl
theorem cells24 : Try.prog.cellsOf 24 = 8 := by kernel_rfl

theorem walk (ls la lf lm : List Int) (h6 : ls.length = 6) (h6' : la.length = 6) (h2 : lf.length = 2) (h8 : lm.length = 8) (bs : ∀ x ∈ ls, 0 ≤ x ∧ x < 256) (ba : ∀ x ∈ la, 0 ≤ x ∧ x < 256) (w : World) :
    Calls Try.prog 3 #[.agg (u8s ls), .agg (u8s la), .agg (u8s lf), .agg (u8s lm)] w fun e w' => e = .returned (.bool true) ∧ Below w.heap.size w w' := by
  obtain ⟨s0, s1, s2, s3, s4, s5, rfl⟩ := list6 ls h6
  obtain ⟨a0, a1, a2, a3, a4, a5, rfl⟩ := list6 la h6'
  obtain ⟨f0, f1, rfl⟩ := list2 lf h2
  obtain ⟨m0, m1, m2, m3, m4, m5, m6, m7, rfl⟩ := list8 lm h8
  obtain ⟨c0, x0, _, _, r0, _, q0⟩ := xor_law s0 a0 (bs s0 (by simp)).1 (bs s0 (by simp)).2 (ba a0 (by simp)).1 (ba a0 (by simp)).2
  obtain ⟨c1, x1, _, _, r1, _, q1⟩ := xor_law s1 a1 (bs s1 (by simp)).1 (bs s1 (by simp)).2 (ba a1 (by simp)).1 (ba a1 (by simp)).2
  obtain ⟨c2, x2, _, _, r2, _, q2⟩ := xor_law s2 a2 (bs s2 (by simp)).1 (bs s2 (by simp)).2 (ba a2 (by simp)).1 (ba a2 (by simp)).2
  obtain ⟨c3, x3, _, _, r3, _, q3⟩ := xor_law s3 a3 (bs s3 (by simp)).1 (bs s3 (by simp)).2 (ba a3 (by simp)).1 (ba a3 (by simp)).2
  obtain ⟨c4, x4, _, _, r4, _, q4⟩ := xor_law s4 a4 (bs s4 (by simp)).1 (bs s4 (by simp)).2 (ba a4 (by simp)).1 (ba a4 (by simp)).2
  obtain ⟨c5, x5, _, _, r5, _, q5⟩ := xor_law s5 a5 (bs s5 (by simp)).1 (bs s5 (by simp)).2 (ba a5 (by simp)).1 (ba a5 (by simp)).2
  have hq : ([c0, c1, c2, c3, c4, c5] == [s0, s1, s2, s3, s4, s5]) = ([a0, a1, a2, a3, a4, a5] == [0, 0, 0, 0, 0, 0]) := by
    simp only [List.cons_beq_cons, q0, q1, q2, q3, q4, q5]
  exact law1_walk s0 s1 s2 s3 s4 s5 a0 a1 a2 a3 a4 a5 c0 c1 c2 c3 c4 c5 f0 f1 m0 m1 m2 m3 m4 m5 m6 m7 x0 x1 x2 x3 x4 x5 r0 r1 r2 r3 r4 r5 ([a0, a1, a2, a3, a4, a5] == [0, 0, 0, 0, 0, 0]) (fun v => eq6 a0 a1 a2 a3 a4 a5 0 0 0 0 0 0 v) (fun v => by rw [eq6 c0 c1 c2 c3 c4 c5 s0 s1 s2 s3 s4 s5 v, hq]) w

set_option maxRecDepth 100000 in
theorem lifted (os : Os) (started : os.Started) (H : Type) (enc : TypeId × Value → H) :
    ReturnsInHanded {} Try.checked os 3 .any (Rows.fnAUTNUnconcealRoundTripSpec.pre6 enc Try.prog Try.f3 Rows.fnAUTNUnconcealRoundTripRow.domain false) (Rows.fnAUTNUnconcealRoundTripSpec.post enc Try.prog Try.f3 false true false false) := by
  refine returnsInHanded_of_change (C := Try.checked) own started (by kernel_rfl) Try.func3
    (ChangeSpec.witness6 (enc := enc) (C := Try.checked) false ⟨#[], #[.agg #[.int .u8 0, .int .u8 0, .int .u8 0, .int .u8 0, .int .u8 0, .int .u8 0], .agg #[.int .u8 0, .int .u8 0, .int .u8 0, .int .u8 0, .int .u8 0, .int .u8 0], .agg #[.int .u8 0, .int .u8 0], .agg #[.int .u8 0, .int .u8 0, .int .u8 0, .int .u8 0, .int .u8 0, .int .u8 0, .int .u8 0, .int .u8 0]], []⟩ 8 (by kernel_rfl) (by kernel_rfl) (by kernel_rfl) (by kernel_rfl)) ?_
  intro W base args ds gs before hval0 hW hcnd _
  have hval : ∀ (j : Nat) t v, Try.f3.params[j]? = some t → args[j]? = some v → Value.okWide Try.prog W .any base t v := hval0
  have hW' := hW
  obtain ⟨p, q, hA0, hV, rfl, hfz, hnd⟩ := hW
  have hA : DataW.TrodAll enc Try.prog W 0 (fun _ => true) true Try.f3.params.toList args.toList ds p := hA0
  rw [Try.params3] at hA hval
  obtain ⟨v0, vs0, d0, ds0, p0, q0, hargs, rfl, rfl, h0, r0⟩ := trodAll_cons hA
  obtain ⟨v1, vs1, d1, ds1, p1, q1, rfl, rfl, rfl, h1, r1⟩ := trodAll_cons r0
  obtain ⟨v2, vs2, d2, ds2, p2, q2, rfl, rfl, rfl, h2, r2⟩ := trodAll_cons r1
  obtain ⟨v3, vs3, d3, ds3, p3, q3, rfl, rfl, rfl, h3, r3⟩ := trodAll_cons r2
  obtain ⟨rfl, rfl, rfl⟩ := trodAll_nil r3
  obtain rfl : args = #[v0, v1, v2, v3] := by cases args; simp_all
  obtain ⟨rfl, rfl⟩ := trodVars_none hV
  have k0 := h0
  have lt0 : ∀ x ∈ p0, x.block < W.heap.size := by obtain ⟨m, hm⟩ := k0; exact DataW.trod_lt m _ _ _ hm
  obtain ⟨l0, rfl, len0, bd0⟩ := open_u8s Try.underlying22 Try.underlying5 cells5 cells22 (hval 0 22 v0 rfl rfl) h0
  have k1 := h1
  have lt1 : ∀ x ∈ p1, x.block < W.heap.size := by obtain ⟨m, hm⟩ := k1; exact DataW.trod_lt m _ _ _ hm
  obtain ⟨l1, rfl, len1, bd1⟩ := open_u8s Try.underlying22 Try.underlying5 cells5 cells22 (hval 1 22 v1 rfl rfl) h1
  have k2 := h2
  have lt2 : ∀ x ∈ p2, x.block < W.heap.size := by obtain ⟨m, hm⟩ := k2; exact DataW.trod_lt m _ _ _ hm
  obtain ⟨l2, rfl, len2, bd2⟩ := open_u8s Try.underlying23 Try.underlying5 cells5 cells23 (hval 2 23 v2 rfl rfl) h2
  have k3 := h3
  have lt3 : ∀ x ∈ p3, x.block < W.heap.size := by obtain ⟨m, hm⟩ := k3; exact DataW.trod_lt m _ _ _ hm
  obtain ⟨l3, rfl, len3, bd3⟩ := open_u8s Try.underlying24 Try.underlying5 cells5 cells24 (hval 3 24 v3 rfl rfl) h3
  clear hA0 hval0
  refine (walk l0 l1 l2 l3 len0 len1 len2 len3 bd0 bd1 W).mono fun e W' ⟨he, bel⟩ => ?_
  subst he
  exact ⟨_, rfl, _, _, _, [], _, [], hW', trodAll_mk1 (shut_bool Try.underlying4 _), (trodAll_cons_mk (Below.trod laidOut (by kernel_rfl) (of_decide_eq_true (by kernel_rfl)) k0 bel lt0) (trodAll_cons_mk (Below.trod laidOut (by kernel_rfl) (of_decide_eq_true (by kernel_rfl)) k1 bel lt1) (trodAll_cons_mk (Below.trod laidOut (by kernel_rfl) (of_decide_eq_true (by kernel_rfl)) k2 bel lt2) (trodAll_cons_mk (Below.trod laidOut (by kernel_rfl) (of_decide_eq_true (by kernel_rfl)) k3 bel lt3) trodAll_mk0)))), rfl, bel.frame _, fun h => by cases h⟩

theorem over : Rows.fnAUTNUnconcealRoundTripRow.holds Try.pinned (OpenSpec.ofChange Rows.fnAUTNUnconcealRoundTripSpec) :=
  OpenClaim.holds_of_wide 3 Try.f3 rfl rfl rfl rfl rfl rfl rfl ⟨rfl, rfl, rfl, rfl, rfl⟩ rfl rfl rfl rfl rfl (by kernel_rfl) Try.func3 (by kernel_rfl)
    (of_decide_eq_true (by kernel_rfl)) (by unfold Func.isWrapper; first | (rw [if_pos (by decide +kernel)]; kernel_rfl) | (rw [if_neg (by decide +kernel)]; exact ⟨rfl, rfl⟩))
    (fun os started H enc _ => lifted os started H enc)

/-- THE STATEMENT -/
theorem proved : Rows.FnAUTNUnconcealRoundTripSaid :=
  over
#print axioms proved
end Go.Proofs.Qxb6629116a.fnAUTNUnconcealRoundTrip
