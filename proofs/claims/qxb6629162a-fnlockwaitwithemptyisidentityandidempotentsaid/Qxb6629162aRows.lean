/-
  No cell of these rows narrows 'for every input' (looked for: loops, veiled, ifaces, maps, wideKeys, modest, calm, conditions, laid).
  DERIVED. THE GIVEN ROWS OF THIS SEAT. 2 by the template 'for every input the law returns true; each argument reads behind the call as it read before'; 0 by the template 'total and deterministic' (their statements: Qxb6629162aTotals.lean).
  GIVEN WITH THE SEED: the statements are not yours to turn. If you find one false, say at which input.
  Laid BY PROGRAM, IN A SANDBOX (cutbox-rows.mjs): the forced cells as the released guide's own fill.sh prints them over the translation de4ff7c2179743b6… (all of the seat's roots in one cut). By AI agents, Wed Nov 11 2026. No macro, syntax, notation, axiom, sorry.
-/
import Derived.Test.Qxb6629162aChecked
import GoSem.Claim
import GoSem.ClaimJoined
import GoSem.ClaimMapViews
import Derived.JoinedTies
import Derived.KernelRfl
namespace Go.Proofs.Qxb6629162a
/- THE CELL 'sum', in the pinned program and in every row, IS THE sha256 OF THE DUMP (.gsa) THAT Qxb6629162aProg.lean LOADS. Nothing in Lean hashes anything: it is a label: what it is worth is what the hold of that sum in a sandbox is worth. -/
noncomputable def Try.pinned : Pinned := { name := "qxb6629162a", sum := "de4ff7c2179743b6501e20a3feff5a34e12315c86c1a558670788c20d1adc4ff", checked := Try.checked }
namespace Rows
def none {H : Type} : Left H := { results := [], args := [] }

/-- 'zzlaws_internal_statement_b1.FnLockWaitWithEmptyIsIdentityAndIdempotent': WHATEVER THE INPUT: true; the input reads as it did. -/
def fnLockWaitWithEmptyIsIdentityAndIdempotentSpec : ChangeSpec := { name := "fnLockWaitWithEmptyIsIdentityAndIdempotent", fn := fun _ => fun
  | [d1, d2] => { results := [.lit (.bool true)], args := [d1, d2] }
  | _ => none }
def fnLockWaitWithEmptyIsIdentityAndIdempotentRow : OpenClaim := { program := "qxb6629162a", sum := "de4ff7c2179743b6501e20a3feff5a34e12315c86c1a558670788c20d1adc4ff", func := "example.com/isolayer/isolayer/zzlaws_internal_statement_b1.FnLockWaitWithEmptyIsIdentityAndIdempotent", spec := "fnLockWaitWithEmptyIsIdentityAndIdempotent", apart := false }
def FnLockWaitWithEmptyIsIdentityAndIdempotentSaid : Prop := fnLockWaitWithEmptyIsIdentityAndIdempotentRow.holds Try.pinned (OpenSpec.ofChange fnLockWaitWithEmptyIsIdentityAndIdempotentSpec)

/-- ITS FALSE NEIGHBOUR: 'it returns false'. Refute it at one input. -/
def fnLockWaitWithEmptyIsIdentityAndIdempotentWrong : ChangeSpec := { name := "fnLockWaitWithEmptyIsIdentityAndIdempotent", fn := fun _ => fun
  | [d1, d2] => { results := [.lit (.bool false)], args := [d1, d2] }
  | _ => none }
def FnLockWaitWithEmptyIsIdentityAndIdempotentWrongFalsely : Prop := fnLockWaitWithEmptyIsIdentityAndIdempotentRow.holds Try.pinned (OpenSpec.ofChange fnLockWaitWithEmptyIsIdentityAndIdempotentWrong)

/-- 'zzlaws_internal_statement_b1.FnLockWaitWithAssociativeNoWaitTopWaitsNext': WHATEVER THE INPUT: true; the input reads as it did. -/
def fnLockWaitWithAssociativeNoWaitTopWaitsNextSpec : ChangeSpec := { name := "fnLockWaitWithAssociativeNoWaitTopWaitsNext", fn := fun _ => fun
  | [d1, d2, d3] => { results := [.lit (.bool true)], args := [d1, d2, d3] }
  | _ => none }
def fnLockWaitWithAssociativeNoWaitTopWaitsNextRow : OpenClaim := { program := "qxb6629162a", sum := "de4ff7c2179743b6501e20a3feff5a34e12315c86c1a558670788c20d1adc4ff", func := "example.com/isolayer/isolayer/zzlaws_internal_statement_b1.FnLockWaitWithAssociativeNoWaitTopWaitsNext", spec := "fnLockWaitWithAssociativeNoWaitTopWaitsNext", apart := false }
def FnLockWaitWithAssociativeNoWaitTopWaitsNextSaid : Prop := fnLockWaitWithAssociativeNoWaitTopWaitsNextRow.holds Try.pinned (OpenSpec.ofChange fnLockWaitWithAssociativeNoWaitTopWaitsNextSpec)

/-- ITS FALSE NEIGHBOUR: 'it returns false'. Refute it at one input. -/
def fnLockWaitWithAssociativeNoWaitTopWaitsNextWrong : ChangeSpec := { name := "fnLockWaitWithAssociativeNoWaitTopWaitsNext", fn := fun _ => fun
  | [d1, d2, d3] => { results := [.lit (.bool false)], args := [d1, d2, d3] }
  | _ => none }
def FnLockWaitWithAssociativeNoWaitTopWaitsNextWrongFalsely : Prop := fnLockWaitWithAssociativeNoWaitTopWaitsNextRow.holds Try.pinned (OpenSpec.ofChange fnLockWaitWithAssociativeNoWaitTopWaitsNextWrong)

end Rows
end Go.Proofs.Qxb6629162a
