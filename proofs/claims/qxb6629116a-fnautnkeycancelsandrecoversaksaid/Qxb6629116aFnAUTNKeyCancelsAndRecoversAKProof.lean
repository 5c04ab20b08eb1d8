/-
  'Rows.FnAUTNKeyCancelsAndRecoversAKSaid', PROVED.
-/
import Derived.Test.Qxb6629116aLaw2
import Derived.Test.Qxb6629116aPlain
import Derived.Test.Qxb6629116aOpen
import Derived.ChangeOld
namespace Go.Proofs.Qxb6629116a.fnAUTNKeyCancelsAndRecoversAK
open Go.ChangeShapes Go.WideShapes Go.ChangeAt Go.RowKit
set_option linter.unusedVariables false

theorem own : ownKnob Try.prog.godebug = none := by kernel_rfl
theorem laidOut : laidOutB Try.prog = true := by kernel_rfl
theorem cells5 : Try.prog.cellsOf 5 = 1 := by kernel_rfl
theorem cells22 : Try.prog.cellsOf 22 = 6 := by kernel_rfl
theorem cells23 : Try.prog.cellsOf 23 = 2 := by kernel_rfl
theorem cells24 : Try.prog.cellsOf 24 = 8 := by kernel_rfl

theorem walk (ls lu la lf lm : List Int) (h6 : ls.length = 6) (h6' : lu.length = 6) (h6'' : la.length = 6) (h2 : lf.length = 2) (h8 : lm.length = 8) (bs : ∀ x ∈ ls, 0 ≤ x ∧ x < 256) (bu : ∀ x ∈ lu, 0 ≤ x ∧ x < 256) (ba : ∀ x ∈ la, 0 ≤ x ∧ x < 256) (w : World) :
    Calls Try.prog 4 #[.agg (u8s ls), .agg (u8s lu), .agg (u8s la), .agg (u8s lf), .agg (u8s lm)] w fun e w' => e = .returned (.bool true) ∧ Below w.heap.size w w' := by
  obtain ⟨s0, s1, s2, s3, s4, s5, rfl⟩ := list6 ls h6
  obtain ⟨u0, u1, u2, u3, u4, u5, rfl⟩ := list6 lu h6'
  obtain ⟨a0, a1, a2, a3, a4, a5, rfl⟩ := list6 la h6''
  obtain ⟨f0, f1, rfl⟩ := list2 lf h2
  obtain ⟨m0, m1, m2, m3, m4, m5, m6, m7, rfl⟩ := list8 lm h8
  obtain ⟨c0, x0, _, _, _, z0, _⟩ := xor_law s0 a0 (bs s0 (by simp)).1 (bs s0 (by simp)).2 (ba a0 (by simp)).1 (ba a0 (by simp)).2
  obtain ⟨d0, y0, _⟩ := xor_law u0 a0 (bu u0 (by simp)).1 (bu u0 (by simp)).2 (ba a0 (by simp)).1 (ba a0 (by simp)).2
  obtain ⟨c1, x1, _, _, _, z1, _⟩ := xor_law s1 a1 (bs s1 (by simp)).1 (bs s1 (by simp)).2 (ba a1 (by simp)).1 (ba a1 (by simp)).2
  obtain ⟨d1, y1, _⟩ := xor_law u1 a1 (bu u1 (by simp)).1 (bu u1 (by simp)).2 (ba a1 (by simp)).1 (ba a1 (by simp)).2
  obtain ⟨c2, x2, _, _, _, z2, _⟩ := xor_law s2 a2 (bs s2 (by simp)).1 (bs s2 (by simp)).2 (ba a2 (by simp)).1 (ba a2 (by simp)).2
  obtain ⟨d2, y2, _⟩ := xor_law u2 a2 (bu u2 (by simp)).1 (bu u2 (by simp)).2 (ba a2 (by simp)).1 (ba a2 (by simp)).2
  obtain ⟨c3, x3, _, _, _, z3, _⟩ := xor_law s3 a3 (bs s3 (by simp)).1 (bs s3 (by simp)).2 (ba a3 (by simp)).1 (ba a3 (by simp)).2
  obtain ⟨d3, y3, _⟩ := xor_law u3 a3 (bu u3 (by simp)).1 (bu u3 (by simp)).2 (ba a3 (by simp)).1 (ba a3 (by simp)).2
  obtain ⟨c4, x4, _, _, _, z4, _⟩ := xor_law s4 a4 (bs s4 (by simp)).1 (bs s4 (by simp)).2 (ba a4 (by simp)).1 (ba a4 (by simp)).2
  obtain ⟨d4, y4, _⟩ := xor_law u4 a4 (bu u4 (by simp)).1 (bu u4 (by simp)).2 (ba a4 (by simp)).1 (ba a4 (by simp)).2
  obtain ⟨c5, x5, _, _, _, z5, _⟩ := xor_law s5 a5 (bs s5 (by simp)).1 (bs s5 (by simp)).2 (ba a5 (by simp)).1 (ba a5 (by simp)).2
  obtain ⟨d5, y5, _⟩ := xor_law u5 a5 (bu u5 (by simp)).1 (bu u5 (by simp)).2 (ba a5 (by simp)).1 (ba a5 (by simp)).2
  exact law2_walk s0 s1 s2 s3 s4 s5 u0 u1 u2 u3 u4 u5 a0 a1 a2 a3 a4 a5 c0 c1 c2 c3 c4 c5 d0 d1 d2 d3 d4 d5 _ _ _ _ _ _ f0 f1 m0 m1 m2 m3 m4 m5 m6 m7 x0 x1 x2 x3 x4 x5 y0 y1 y2 y3 y4 y5 z0 z1 z2 z3 z4 z5
    (xor_cancel s0 u0 a0 c0 d0 (bs s0 (by simp)).1 (bs s0 (by simp)).2 (ba a0 (by simp)).1 (ba a0 (by simp)).2 (bu u0 (by simp)).1 (bu u0 (by simp)).2 x0 y0) rfl (xor_cancel s1 u1 a1 c1 d1 (bs s1 (by simp)).1 (bs s1 (by simp)).2 (ba a1 (by simp)).1 (ba a1 (by simp)).2 (bu u1 (by simp)).1 (bu u1 (by simp)).2 x1 y1) rfl (xor_cancel s2 u2 a2 c2 d2 (bs s2 (by simp)).1 (bs s2 (by simp)).2 (ba a2 (by simp)).1 (ba a2 (by simp)).2 (bu u2 (by simp)).1 (bu u2 (by simp)).2 x2 y2) rfl (xor_cancel s3 u3 a3 c3 d3 (bs s3 (by simp)).1 (bs s3 (by simp)).2 (ba a3 (by simp)).1 (ba a3 (by simp)).2 (bu u3 (by simp)).1 (bu u3 (by simp)).2 x3 y3) rfl (xor_cancel s4 u4 a4 c4 d4 (bs s4 (by simp)).1 (bs s4 (by simp)).2 (ba a4 (by simp)).1 (ba a4 (by simp)).2 (bu u4 (by simp)).1 (bu u4 (by simp)).2 x4 y4) rfl (xor_cancel s5 u5 a5 c5 d5 (bs s5 (by simp)).1 (bs s5 (by simp)).2 (ba a5 (by simp)).1 (ba a5 (by simp)).2 (bu u5 (by simp)).1 (bu u5 (by simp)).2 x5 y5) rfl w

set_option maxRecDepth 100000 in
theorem lifted (os : Os) (started : os.Started) (H : Type) (enc : TypeId × Value → H) :
    ReturnsInHanded {} Try.checked os 4 .any (Rows.fnAUTNKeyCancelsAndRecoversAKSpec.pre6 enc Try.prog Try.f4 Rows.fnAUTNKeyCancelsAndRecoversAKRow.domain false) (Rows.fnAUTNKeyCancelsAndRecoversAKSpec.post enc Try.prog Try.f4 false true false false) := by
  refine returnsInHanded_of_change (C := Try.checked) own started (by kernel_rfl) Try.func4
    (ChangeSpec.witness6 (enc := enc) (C := Try.checked) false ⟨#[], #[.agg #[.int .u8 0, .int .u8 0, .int .u8 0, .int .u8 0, .int .u8 0, .int .u8 0], .agg #[.int .u8 0, .int .u8 0, .int .u8 0, .int .u8 0, .int .u8 0, .int .u8 0], .agg #[.int .u8 0, .int .u8 0, .int .u8 0, .int .u8 0, .int .u8 0, .int .u8 0], .agg #[.int .u8 0, .int .u8 0], .agg #[.int .u8 0, .int .u8 0, .int .u8 0, .int .u8 0, .int .u8 0, .int .u8 0, .int .u8 0, .int .u8 0]], []⟩ 8 (by kernel_rfl) (by kernel_rfl) (by kernel_rfl) (by kernel_rfl)) ?_
  intro W base args ds gs before hval0 hW hcnd _
  have hval : ∀ (j : Nat) t v, Try.f4.params[j]? = some t → args[j]? = some v → Value.okWide Try.prog W .any base t v := hval0
  have hW' := hW
  obtain ⟨p, q, hA0, hV, rfl, hfz, hnd⟩ := hW
  have hA : DataW.TrodAll enc Try.prog W 0 (fun _ => true) true Try.f4.params.toList args.toList ds p := hA0
  rw [Try.params4] at hA hval
  obtain ⟨v0, vs0, d0, ds0, p0, q0, hargs, rfl, rfl, h0, r0⟩ := trodAll_cons hA
  obtain ⟨v1, vs1, d1, ds1, p1, q1, rfl, rfl, rfl, h1, r1⟩ := trodAll_cons r0
  obtain ⟨v2, vs2, d2, ds2, p2, q2, rfl, rfl, rfl, h2, r2⟩ := trodAll_cons r1
  obtain ⟨v3, vs3, d3, ds3, p3, q3, rfl, rfl, rfl, h3, r3⟩ := trodAll_cons r2
  obtain ⟨v4, vs4, d4, ds4, p4, q4, rfl, rfl, rfl, h4, r4⟩ := trodAll_cons r3
  obtain ⟨rfl, rfl, rfl⟩ := trodAll_nil r4
  obtain rfl : args = #[v0, v1, v2, v3, v4] := by cases args; simp_all
  obtain ⟨rfl, rfl⟩ := trodVars_none hV
  have k0 := h0
  have lt0 : ∀ x ∈ p0, x.block < W.heap.size := by obtain ⟨m, hm⟩ := k0; exact DataW.trod_lt m _ _ _ hm
  obtain ⟨l0, rfl, len0, bd0⟩ := open_u8s Try.underlying22 Try.underlying5 cells5 cells22 (hval 0 22 v0 rfl rfl) h0
  have k1 := h1
  have lt1 : ∀ x ∈ p1, x.block < W.heap.size := by obtain ⟨m, hm⟩ := k1; exact DataW.trod_lt m _ _ _ hm
  obtain ⟨l1, rfl, len1, bd1⟩ := open_u8s Try.underlying22 Try.underlying5 cells5 cells22 (hval 1 22 v1 rfl rfl) h1
  have k2 := h2
  have lt2 : ∀ x ∈ p2, x.block < W.heap.size := by obtain ⟨m, hm⟩ := k2; exact DataW.trod_lt m _ _ _ hm
  obtain ⟨l2, rfl, len2, bd2⟩ := open_u8s Try.underlying22 Try.underlying5 cells5 cells22 (hval 2 22 v2 rfl rfl) h2
  have k3 := h3
  have lt3 : ∀ x ∈ p3, x.block < W.heap.size := by obtain ⟨m, hm⟩ := k3; exact DataW.trod_lt m _ _ _ hm
  obtain ⟨l3, rfl, len3, bd3⟩ := open_u8s Try.underlying23 Try.underlying5 cells5 cells23 (hval 3 23 v3 rfl rfl) h3
  have k4 := h4
  have lt4 : ∀ x ∈ p4, x.block < W.heap.size := by obtain ⟨m, hm⟩ := k4; exact DataW.trod_lt m _ _ _ hm
  obtain ⟨l4, rfl, len4, bd4⟩ := open_u8s Try.underlying24 Try.underlying5 cells5 cells24 (hval 4 24 v4 rfl rfl) h4
  clear hA0 hval0
  refine (walk l0 l1 l2 l3 l4 len0 len1 len2 len3 len4 bd0 bd1 bd2 W).mono fun e W' ⟨he, bel⟩ => ?_
  subst he
  exact ⟨_, rfl, _, _, _, [], _, [], hW', trodAll_mk1 (shut_bool Try.underlying4 _), (trodAll_cons_mk (Below.trod laidOut (by kernel_rfl) (of_decide_eq_true (by kernel_rfl)) k0 bel lt0) (trodAll_cons_mk (Below.trod laidOut (by kernel_rfl) (of_decide_eq_true (by kernel_rfl)) k1 bel lt1) (trodAll_cons_mk (Below.trod laidOut (by kernel_rfl) (of_decide_eq_true (by kernel_rfl)) k2 bel lt2) (trodAll_cons_mk (Below.trod laidOut (by kernel_rfl) (of_decide_eq_true (by kernel_rfl)) k3 bel lt3) (trodAll_cons_mk (Below.trod laidOut (by kernel_rfl) (of_decide_eq_true (by kernel_rfl)) k4 bel lt4) trodAll_mk0))))), rfl, bel.frame _, fun h => by cases h⟩

theorem over : Rows.fnAUTNKeyCancelsAndRecoversAKRow.holds Try.pinned (OpenSpec.ofChange Rows.fnAUTNKeyCancelsAndRecoversAKSpec) :=
  OpenClaim.holds_of_wide 4 Try.f4 rfl rfl rfl rfl rfl rfl rfl ⟨rfl, rfl, rfl, rfl, rfl⟩ rfl rfl rfl rfl rfl (by kernel_rfl) Try.func4 (by kernel_rfl)
    (of_decide_eq_true (by kernel_rfl)) (by unfold Func.isWrapper; first | (rw [if_pos (by decide +kernel)]; kernel_rfl) | (rw [if_neg (by decide +kernel)]; exact ⟨rfl, rfl⟩))
    (fun os started H enc _ => lifted os started H enc)

/-- THE STATEMENT -/
theorem proved : Rows.FnAUTNKeyCancelsAndRecoversAKSaid :=
  over
#print axioms proved
end Go.Proofs.Qxb6629116a.fnAUTNKeyCancelsAndRecoversAK
