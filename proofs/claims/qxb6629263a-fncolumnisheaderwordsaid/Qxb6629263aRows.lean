/-
  No cell of these rows narrows 'for every input' (looked for: loops, veiled, ifaces, maps, wideKeys, modest, calm, conditions, laid).
  DERIVED. THE GIVEN ROWS OF THIS SEAT. 2 by the template 'for every input the law returns true; each argument reads behind the call as it read before'; 0 by the template 'total and deterministic' (their statements: Qxb6629263aTotals.lean).
  GIVEN WITH THE SEED: the statements are not yours to turn. If you find one false, say at which input.
  Laid BY PROGRAM, IN A SANDBOX (cutbox-rows.mjs): the forced cells as the released guide's own fill.sh prints them over the translation 150e9c39f013bc76… (all of the seat's roots in one cut). By AI agents, Wed Nov 11 2026. No macro, syntax, notation, axiom, sorry.
-/
import Derived.Test.Qxb6629263aChecked
import GoSem.Claim
import GoSem.ClaimJoined
import GoSem.ClaimMapViews
import Derived.JoinedTies
import Derived.KernelRfl
namespace Go.Proofs.Qxb6629263a
/- THE CELL 'sum', in the pinned program and in every row, IS THE sha256 OF THE DUMP (.gsa) THAT Qxb6629263aProg.lean LOADS. Nothing in Lean hashes anything: it is a label: what it is worth is what the hold of that sum in a sandbox is worth. -/
noncomputable def Try.pinned : Pinned := { name := "qxb6629263a", sum := "150e9c39f013bc768fb2a87b0fa3c7b9fd15297b2ccb0ad2f13eb32da3634a52", checked := Try.checked }
namespace Rows
def none {H : Type} : Left H := { results := [], args := [] }

/-- 'zzlaws_pkg_holdings_b1.FnColumnSeparatesKinds': WHATEVER THE INPUT: true; the input reads as it did. -/
def fnColumnSeparatesKindsSpec : ChangeSpec := { name := "fnColumnSeparatesKinds", fn := fun _ => fun
  | [d1, d2] => { results := [.lit (.bool true)], args := [d1, d2] }
  | _ => none }
def fnColumnSeparatesKindsRow : OpenClaim := { program := "qxb6629263a", sum := "150e9c39f013bc768fb2a87b0fa3c7b9fd15297b2ccb0ad2f13eb32da3634a52", func := "example.com/tuoguan/tuoguan/zzlaws_pkg_holdings_b1.FnColumnSeparatesKinds", spec := "fnColumnSeparatesKinds", apart := false }
def FnColumnSeparatesKindsSaid : Prop := fnColumnSeparatesKindsRow.holds Try.pinned (OpenSpec.ofChange fnColumnSeparatesKindsSpec)

/-- ITS FALSE NEIGHBOUR: 'it returns false'. Refute it at one input. -/
def fnColumnSeparatesKindsWrong : ChangeSpec := { name := "fnColumnSeparatesKinds", fn := fun _ => fun
  | [d1, d2] => { results := [.lit (.bool false)], args := [d1, d2] }
  | _ => none }
def FnColumnSeparatesKindsWrongFalsely : Prop := fnColumnSeparatesKindsRow.holds Try.pinned (OpenSpec.ofChange fnColumnSeparatesKindsWrong)

/-- 'zzlaws_pkg_holdings_b1.FnColumnIsHeaderWord': WHATEVER THE INPUT: true; the input reads as it did. -/
def fnColumnIsHeaderWordSpec : ChangeSpec := { name := "fnColumnIsHeaderWord", fn := fun _ => fun
  | [d] => { results := [.lit (.bool true)], args := [d] }
  | _ => none }
def fnColumnIsHeaderWordRow : OpenClaim := { program := "qxb6629263a", sum := "150e9c39f013bc768fb2a87b0fa3c7b9fd15297b2ccb0ad2f13eb32da3634a52", func := "example.com/tuoguan/tuoguan/zzlaws_pkg_holdings_b1.FnColumnIsHeaderWord", spec := "fnColumnIsHeaderWord", apart := false }
def FnColumnIsHeaderWordSaid : Prop := fnColumnIsHeaderWordRow.holds Try.pinned (OpenSpec.ofChange fnColumnIsHeaderWordSpec)

/-- ITS FALSE NEIGHBOUR: 'it returns false'. Refute it at one input. -/
def fnColumnIsHeaderWordWrong : ChangeSpec := { name := "fnColumnIsHeaderWord", fn := fun _ => fun
  | [d] => { results := [.lit (.bool false)], args := [d] }
  | _ => none }
def FnColumnIsHeaderWordWrongFalsely : Prop := fnColumnIsHeaderWordRow.holds Try.pinned (OpenSpec.ofChange fnColumnIsHeaderWordWrong)

end Rows
end Go.Proofs.Qxb6629263a
