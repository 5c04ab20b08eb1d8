/-
  No cell of these rows narrows 'for every input' (looked for: loops, veiled, ifaces, maps, wideKeys, modest, calm, conditions, laid).
  DERIVED. THE GIVEN ROWS OF THIS SEAT. 2 by the template 'for every input the law returns true; each argument reads behind the call as it read before'; 0 by the template 'total and deterministic' (their statements: Qxb6629201aTotals.lean).
  GIVEN WITH THE SEED: the statements are not yours to turn. If you find one false, say at which input.
  Laid BY PROGRAM, IN A SANDBOX (cutbox-rows.mjs): the forced cells as the released guide's own fill.sh prints them over the translation 3b1ce2dcafd08208… (all of the seat's roots in one cut). By AI agents, Wed Nov 11 2026. No macro, syntax, notation, axiom, sorry.
-/
import Derived.Test.Qxb6629201aChecked
import GoSem.Claim
import GoSem.ClaimJoined
import GoSem.ClaimMapViews
import Derived.JoinedTies
import Derived.KernelRfl
namespace Go.Proofs.Qxb6629201a
/- THE CELL 'sum', in the pinned program and in every row, IS THE sha256 OF THE DUMP (.gsa) THAT Qxb6629201aProg.lean LOADS. Nothing in Lean hashes anything: it is a label: what it is worth is what the hold of that sum in a sandbox is worth. -/
noncomputable def Try.pinned : Pinned := { name := "qxb6629201a", sum := "3b1ce2dcafd08208c364e27ad4b4120dfec4f42c2853510e08977120e40bfabd", checked := Try.checked }
namespace Rows
def none {H : Type} : Left H := { results := [], args := [] }

/-- 'zzlaws_internal_policy_b1.FnPassesThroughInsertOwnHost': WHATEVER THE INPUT: true; the input reads as it did. -/
def fnPassesThroughInsertOwnHostSpec : ChangeSpec := { name := "fnPassesThroughInsertOwnHost", fn := fun _ => fun
  | [d1, d2, d3] => { results := [.lit (.bool true)], args := [d1, d2, d3] }
  | _ => none }
def fnPassesThroughInsertOwnHostRow : OpenClaim := { program := "qxb6629201a", sum := "3b1ce2dcafd08208c364e27ad4b4120dfec4f42c2853510e08977120e40bfabd", func := "example.com/sluice/sluice/zzlaws_internal_policy_b1.FnPassesThroughInsertOwnHost", spec := "fnPassesThroughInsertOwnHost", unfollowed := true, recurses := true, apart := false }
def FnPassesThroughInsertOwnHostSaid : Prop := fnPassesThroughInsertOwnHostRow.holds Try.pinned (OpenSpec.ofChange fnPassesThroughInsertOwnHostSpec)

/-- ITS FALSE NEIGHBOUR: 'it returns false'. Refute it at one input. -/
def fnPassesThroughInsertOwnHostWrong : ChangeSpec := { name := "fnPassesThroughInsertOwnHost", fn := fun _ => fun
  | [d1, d2, d3] => { results := [.lit (.bool false)], args := [d1, d2, d3] }
  | _ => none }
def FnPassesThroughInsertOwnHostWrongFalsely : Prop := fnPassesThroughInsertOwnHostRow.holds Try.pinned (OpenSpec.ofChange fnPassesThroughInsertOwnHostWrong)

/-- 'zzlaws_internal_policy_b1.FnPassesThroughCutAndWildcard': WHATEVER THE INPUT: true; the input reads as it did. -/
def fnPassesThroughCutAndWildcardSpec : ChangeSpec := { name := "fnPassesThroughCutAndWildcard", fn := fun _ => fun
  | [d1, d2, d3, d4] => { results := [.lit (.bool true)], args := [d1, d2, d3, d4] }
  | _ => none }
def fnPassesThroughCutAndWildcardRow : OpenClaim := { program := "qxb6629201a", sum := "3b1ce2dcafd08208c364e27ad4b4120dfec4f42c2853510e08977120e40bfabd", func := "example.com/sluice/sluice/zzlaws_internal_policy_b1.FnPassesThroughCutAndWildcard", spec := "fnPassesThroughCutAndWildcard", unfollowed := true, recurses := true, apart := false }
def FnPassesThroughCutAndWildcardSaid : Prop := fnPassesThroughCutAndWildcardRow.holds Try.pinned (OpenSpec.ofChange fnPassesThroughCutAndWildcardSpec)

/-- ITS FALSE NEIGHBOUR: 'it returns false'. Refute it at one input. -/
def fnPassesThroughCutAndWildcardWrong : ChangeSpec := { name := "fnPassesThroughCutAndWildcard", fn := fun _ => fun
  | [d1, d2, d3, d4] => { results := [.lit (.bool false)], args := [d1, d2, d3, d4] }
  | _ => none }
def FnPassesThroughCutAndWildcardWrongFalsely : Prop := fnPassesThroughCutAndWildcardRow.holds Try.pinned (OpenSpec.ofChange fnPassesThroughCutAndWildcardWrong)

end Rows
end Go.Proofs.Qxb6629201a
