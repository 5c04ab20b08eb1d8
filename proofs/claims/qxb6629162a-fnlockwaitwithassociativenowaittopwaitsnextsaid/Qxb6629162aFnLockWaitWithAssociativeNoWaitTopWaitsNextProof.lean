/-
  'Rows.FnLockWaitWithAssociativeNoWaitTopWaitsNextSaid', PROVED. The frame: the shell that lies with the seat.
-/
import Derived.Test.Qxb6629162aRows
import Derived.Test.Qxb6629162aWith
import Derived.WalkKit
import Derived.ProofKit
import Derived.OpenShut
import Derived.ShutString
namespace Go.Proofs.Qxb6629162a.fnLockWaitWithAssociativeNoWaitTopWaitsNext
open Go.ChangeShapes Go.WideShapes Go.ChangeAt Go.RowKit
open Go.ChangeMaps (open_string shut_string)
set_option linter.unusedVariables false      -- a walk need not use every 'w<i>' (that an integer argument fits its kind)

theorem own : ownKnob Try.prog.godebug = none := by kernel_rfl

/-! ### THE PLAIN LAW -/
/-- With over any type with three words of its own, apart from one another. -/
def join {α : Type} [DecidableEq α] (n t e : α) (a b : α) : α := if a = n ∨ b = n then n else if a = t ∨ b = t then t else if a = e then b else a
theorem join_assoc {α : Type} [DecidableEq α] (n t e : α) (h1 : t ≠ n) (a b c : α) : join n t e (join n t e a b) c = join n t e a (join n t e b c) := by
  unfold join
  by_cases an : a = n <;> by_cases bn : b = n <;> by_cases cn : c = n <;> by_cases at' : a = t <;> by_cases bt : b = t <;> by_cases ct : c = t <;> by_cases ae : a = e <;> by_cases be : b = e <;> simp_all
theorem withB_join (a b : ByteArray) : withB a b = join ⟨#[110, 111, 119, 97, 105, 116]⟩ ⟨#[119, 97, 105, 116]⟩ ByteArray.empty a b := withB_eq a b
theorem assoc (a b c : ByteArray) : withB (withB a b) c = withB a (withB b c) := by
  simp only [withB_join]
  exact join_assoc _ _ _ (by decide) a b c
theorem nw_with (a : ByteArray) : ⟨#[110, 111, 119, 97, 105, 116]⟩ = withB ⟨#[110, 111, 119, 97, 105, 116]⟩ a := by
  rw [withB_eq, if_pos (Or.inl rfl)]
theorem with_nw (a : ByteArray) : ⟨#[110, 111, 119, 97, 105, 116]⟩ = withB a ⟨#[110, 111, 119, 97, 105, 116]⟩ := by
  rw [withB_eq, if_pos (Or.inr rfl)]
theorem wt_with (a : ByteArray) (h : a ≠ ⟨#[110, 111, 119, 97, 105, 116]⟩) : ⟨#[119, 97, 105, 116]⟩ = withB ⟨#[119, 97, 105, 116]⟩ a := by
  rw [withB_eq, if_neg (by intro h'; rcases h' with h' | h'; exact absurd h' (by decide); exact h h'), if_pos (Or.inl rfl)]
theorem with_wt (a : ByteArray) (h : a ≠ ⟨#[110, 111, 119, 97, 105, 116]⟩) : ⟨#[119, 97, 105, 116]⟩ = withB a ⟨#[119, 97, 105, 116]⟩ := by
  rw [withB_eq, if_neg (by intro h'; rcases h' with h' | h'; exact h h'; exact absurd h' (by decide)), if_pos (Or.inr rfl)]

/-! ### THE WALK -/
set_option maxHeartbeats 400000 in
theorem walk (a0 : ByteArray) (a1 : ByteArray) (a2 : ByteArray) (w0 : a0.size ≤ maxLen) (w1 : a1.size ≤ maxLen) (w2 : a2.size ≤ maxLen) (w : World) :
    Calls Try.prog 4 #[.string a0, .string a1, .string a2] w fun e w' => e = .returned (.bool true) ∧ Grown w w' := by
  have W0 : Hid (a0.size ≤ maxLen) := w0
  have W1 : Hid (a1.size ≤ maxLen) := w1
  have W2 : Hid (a2.size ≤ maxLen) := w2
  unfold maxLen at w0 w1 w2
  obtain ⟨x, hx⟩ : ∃ x, x = withB a0 a1 := ⟨_, rfl⟩
  obtain ⟨y, hy⟩ : ∃ y, y = withB a1 a2 := ⟨_, rfl⟩
  obtain ⟨z, hz⟩ : ∃ z, z = withB x a2 := ⟨_, rfl⟩
  have hz' : z = withB a0 y := by rw [hz, hx, hy, assoc]
  have HX : Hid (x = withB a0 a1) := hx
  have HY : Hid (y = withB a1 a2) := hy
  have HZ : Hid (z = withB x a2) := hz
  have HZ' : Hid (z = withB a0 y) := hz'
  clear hx hy hz hz'
  go_enter Try.func4, Try.ntmps4
  go_wp2_with fail
  refine (bytes3_any a0 a1 a2 W0.out W1.out W2.out _).mono ?_
  rintro e w' ⟨⟨r, rfl⟩, hw⟩
  subst hw
  cases r
  · go_wp2_with fail
    go_ret
    exact ⟨rfl, Grown.refl _⟩
  · go_wp2_with fail
    · go_ret
      exact ⟨rfl, Grown.refl _⟩
    · go_ret
      exact ⟨rfl, Grown.refl _⟩
    · go_ret
      exact ⟨rfl, Grown.refl _⟩
    · refine (with_any a0 a1 x HX.out _).mono ?_
      rintro e w' ⟨rfl, hw⟩
      subst hw
      go_wp2_with fail
      refine (with_any x a2 z HZ.out _).mono ?_
      rintro e w' ⟨rfl, hw⟩
      subst hw
      go_wp2_with fail
      refine (with_any a1 a2 y HY.out _).mono ?_
      rintro e w' ⟨rfl, hw⟩
      subst hw
      go_wp2_with fail
      refine (with_any a0 y z HZ'.out _).mono ?_
      rintro e w' ⟨rfl, hw⟩
      subst hw
      go_wp2_with fail
      refine (with_any ⟨#[110, 111, 119, 97, 105, 116]⟩ a0 ⟨#[110, 111, 119, 97, 105, 116]⟩ (nw_with a0) _).mono ?_
      rintro e w' ⟨rfl, hw⟩
      subst hw
      go_wp2_with fail
      refine (with_any a0 ⟨#[110, 111, 119, 97, 105, 116]⟩ ⟨#[110, 111, 119, 97, 105, 116]⟩ (with_nw a0) _).mono ?_
      rintro e w' ⟨rfl, hw⟩
      subst hw
      by_cases hA : a0.toList = [110, 111, 119, 97, 105, 116]
      · have hB : (a0.toList == [110, 111, 119, 97, 105, 116]) = true := by rw [hA]; rfl
        clear hA
        go_wp2_with fail
        go_ret
        exact ⟨rfl, Grown.refl _⟩
      · have hB : (a0.toList == [110, 111, 119, 97, 105, 116]) = false := by simpa using hA
        have hN : Hid (a0 ≠ ⟨#[110, 111, 119, 97, 105, 116]⟩) := fun h => hA ((toList_iff a0 _).2 h)
        clear hA
        go_wp2_with fail
        refine (with_any ⟨#[119, 97, 105, 116]⟩ a0 ⟨#[119, 97, 105, 116]⟩ (wt_with a0 hN.out) _).mono ?_
        rintro e w' ⟨rfl, hw⟩
        subst hw
        go_wp2_with fail
        refine (with_any a0 ⟨#[119, 97, 105, 116]⟩ ⟨#[119, 97, 105, 116]⟩ (with_wt a0 hN.out) _).mono ?_
        rintro e w' ⟨rfl, hw⟩
        subst hw
        go_wp2_with fail
        go_ret
        exact ⟨rfl, Grown.refl _⟩

/-! ### THE ROW's STEP: WRITTEN OUT: LEAVE IT -/
set_option maxRecDepth 100000 in
theorem lifted (os : Os) (started : os.Started) (H : Type) (enc : TypeId × Value → H) :
    ReturnsInHanded {} Try.checked os 4 .any (Rows.fnLockWaitWithAssociativeNoWaitTopWaitsNextSpec.pre6 enc Try.prog Try.f4 Rows.fnLockWaitWithAssociativeNoWaitTopWaitsNextRow.domain false) (Rows.fnLockWaitWithAssociativeNoWaitTopWaitsNextSpec.post enc Try.prog Try.f4 false true false false) := by
  refine returnsInHanded_of_change (C := Try.checked) own started (by kernel_rfl) Try.func4
    (ChangeSpec.witness6 (enc := enc) (C := Try.checked) false ⟨#[], #[.string ByteArray.empty, .string ByteArray.empty, .string ByteArray.empty], []⟩ 8 (by kernel_rfl) (by kernel_rfl) (by kernel_rfl) (by kernel_rfl)) ?_
  intro W base args ds gs before hval0 hW hcnd _
  have hval : ∀ (j : Nat) t v, Try.f4.params[j]? = some t → args[j]? = some v → Value.okWide Try.prog W .any base t v := hval0
  have hW' := hW
  obtain ⟨p, q, hA0, hV, rfl, hfz, hnd⟩ := hW
  have hA : DataW.TrodAll enc Try.prog W 0 (fun _ => true) true Try.f4.params.toList args.toList ds p := hA0
  rw [Try.params4] at hA hval
  obtain ⟨v0, vs0, d0, ds0, p0, q0, hargs, rfl, rfl, h0, r0⟩ := trodAll_cons hA
  obtain ⟨v1, vs1, d1, ds1, p1, q1, rfl, rfl, rfl, h1, r1⟩ := trodAll_cons r0
  obtain ⟨v2, vs2, d2, ds2, p2, q2, rfl, rfl, rfl, h2, r2⟩ := trodAll_cons r1
  obtain ⟨rfl, rfl, rfl⟩ := trodAll_nil r2
  obtain rfl : args = #[v0, v1, v2] := by cases args; simp_all
  obtain ⟨rfl, rfl⟩ := trodVars_none hV
  obtain ⟨a0, rfl, rfl, rfl, w0⟩ := open_string Try.underlying9 (hval 0 9 v0 rfl rfl) h0
  obtain ⟨a1, rfl, rfl, rfl, w1⟩ := open_string Try.underlying9 (hval 1 9 v1 rfl rfl) h1
  obtain ⟨a2, rfl, rfl, rfl, w2⟩ := open_string Try.underlying9 (hval 2 9 v2 rfl rfl) h2
  clear hA0 hval0
  simp only [List.append_nil] at hW'
  refine (walk a0 a1 a2 w0 w1 w2 W).mono fun e W' ⟨he, hg⟩ => ?_
  subst he
  exact ⟨_, rfl, post_of_same (pa := []) (pv := []) hW' (fun _ _ _ => (trodAll_cons_mk (shut_bool Try.underlying4 _) trodAll_mk0)) (fun sp _ => (trodAll_cons_mk (shut_string Try.underlying9 w0) (trodAll_cons_mk (shut_string Try.underlying9 w1) (trodAll_cons_mk (shut_string Try.underlying9 w2) trodAll_mk0)))) (fun _ _ => rfl) rfl
    (hg.frame _) hg.2.1 (ok_one (by kernel_rfl) rfl (okWide_bool_mk Try.underlying4 _))⟩

theorem over : Rows.fnLockWaitWithAssociativeNoWaitTopWaitsNextRow.holds Try.pinned (OpenSpec.ofChange Rows.fnLockWaitWithAssociativeNoWaitTopWaitsNextSpec) :=
  OpenClaim.holds_of_wide 4 Try.f4 rfl rfl rfl rfl rfl rfl rfl ⟨rfl, rfl, rfl, rfl, rfl⟩ rfl rfl rfl rfl rfl (by kernel_rfl) Try.func4 (by kernel_rfl)
    (of_decide_eq_true (by kernel_rfl)) (by unfold Func.isWrapper; first | (rw [if_pos (by decide +kernel)]; kernel_rfl) | (rw [if_neg (by decide +kernel)]; exact ⟨rfl, rfl⟩))
    (fun os started H enc _ => lifted os started H enc)

/-- ████ THE STATEMENT ████ -/
theorem proved : Rows.FnLockWaitWithAssociativeNoWaitTopWaitsNextSaid :=
  over
#print axioms proved
end Go.Proofs.Qxb6629162a.fnLockWaitWithAssociativeNoWaitTopWaitsNext
