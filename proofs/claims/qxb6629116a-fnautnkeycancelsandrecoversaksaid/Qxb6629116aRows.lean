/-
  No cell of these rows narrows 'for every input' (looked for: loops, veiled, ifaces, maps, wideKeys, modest, calm, conditions, laid).
  DERIVED. THE GIVEN ROWS OF THIS SEAT. 2 by the template 'for every input the law returns true; each argument reads behind the call as it read before'; 0 by the template 'total and deterministic' (their statements: Qxb6629116aTotals.lean).
  GIVEN WITH THE SEED: the statements are not yours to turn. If you find one false, say at which input.
  Laid BY PROGRAM, IN A SANDBOX (cutbox-rows.mjs): the forced cells as the released guide's own fill.sh prints them over the translation b779c28209650d24… (all of the seat's roots in one cut). By AI agents, Wed Nov 11 2026. No macro, syntax, notation, axiom, sorry.
-/
import Derived.Test.Qxb6629116aChecked
import GoSem.Claim
import GoSem.ClaimJoined
import GoSem.ClaimMapViews
import Derived.JoinedTies
import Derived.KernelRfl
namespace Go.Proofs.Qxb6629116a
/- THE CELL 'sum', in the pinned program and in every row, IS THE sha256 OF THE DUMP (.gsa) THAT Qxb6629116aProg.lean LOADS. Nothing in Lean hashes anything: it is a label: what it is worth is what the hold of that sum in a sandbox is worth. -/
noncomputable def Try.pinned : Pinned := { name := "qxb6629116a", sum := "b779c28209650d24656e8ed27051ef645be61080604ad4a7428010f886a88f2f", checked := Try.checked }
namespace Rows
def none {H : Type} : Left H := { results := [], args := [] }

/-- 'zzlaws_aka_b1.FnAUTNUnconcealRoundTrip': WHATEVER THE INPUT: true; the input reads as it did. -/
def fnAUTNUnconcealRoundTripSpec : ChangeSpec := { name := "fnAUTNUnconcealRoundTrip", fn := fun _ => fun
  | [d1, d2, d3, d4] => { results := [.lit (.bool true)], args := [d1, d2, d3, d4] }
  | _ => none }
def fnAUTNUnconcealRoundTripRow : OpenClaim := { program := "qxb6629116a", sum := "b779c28209650d24656e8ed27051ef645be61080604ad4a7428010f886a88f2f", func := "example.com/quintet/quintet/zzlaws_aka_b1.FnAUTNUnconcealRoundTrip", spec := "fnAUTNUnconcealRoundTrip", apart := false }
def FnAUTNUnconcealRoundTripSaid : Prop := fnAUTNUnconcealRoundTripRow.holds Try.pinned (OpenSpec.ofChange fnAUTNUnconcealRoundTripSpec)

/-- ITS FALSE NEIGHBOUR: 'it returns false'. Refute it at one input. -/
def fnAUTNUnconcealRoundTripWrong : ChangeSpec := { name := "fnAUTNUnconcealRoundTrip", fn := fun _ => fun
  | [d1, d2, d3, d4] => { results := [.lit (.bool false)], args := [d1, d2, d3, d4] }
  | _ => none }
def FnAUTNUnconcealRoundTripWrongFalsely : Prop := fnAUTNUnconcealRoundTripRow.holds Try.pinned (OpenSpec.ofChange fnAUTNUnconcealRoundTripWrong)

/-- 'zzlaws_aka_b1.FnAUTNKeyCancelsAndRecoversAK': WHATEVER THE INPUT: true; the input reads as it did. -/
def fnAUTNKeyCancelsAndRecoversAKSpec : ChangeSpec := { name := "fnAUTNKeyCancelsAndRecoversAK", fn := fun _ => fun
  | [d1, d2, d3, d4, d5] => { results := [.lit (.bool true)], args := [d1, d2, d3, d4, d5] }
  | _ => none }
def fnAUTNKeyCancelsAndRecoversAKRow : OpenClaim := { program := "qxb6629116a", sum := "b779c28209650d24656e8ed27051ef645be61080604ad4a7428010f886a88f2f", func := "example.com/quintet/quintet/zzlaws_aka_b1.FnAUTNKeyCancelsAndRecoversAK", spec := "fnAUTNKeyCancelsAndRecoversAK", apart := false }
def FnAUTNKeyCancelsAndRecoversAKSaid : Prop := fnAUTNKeyCancelsAndRecoversAKRow.holds Try.pinned (OpenSpec.ofChange fnAUTNKeyCancelsAndRecoversAKSpec)

/-- ITS FALSE NEIGHBOUR: 'it returns false'. Refute it at one input. -/
def fnAUTNKeyCancelsAndRecoversAKWrong : ChangeSpec := { name := "fnAUTNKeyCancelsAndRecoversAK", fn := fun _ => fun
  | [d1, d2, d3, d4, d5] => { results := [.lit (.bool false)], args := [d1, d2, d3, d4, d5] }
  | _ => none }
def FnAUTNKeyCancelsAndRecoversAKWrongFalsely : Prop := fnAUTNKeyCancelsAndRecoversAKRow.holds Try.pinned (OpenSpec.ofChange fnAUTNKeyCancelsAndRecoversAKWrong)

end Rows
end Go.Proofs.Qxb6629116a
