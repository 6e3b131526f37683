/-
  No cell of these rows narrows 'for every input' (looked for: loops, veiled, ifaces, maps, wideKeys, modest, calm, conditions, laid).
  DERIVED. THE GIVEN ROWS OF THIS SEAT. 2 by the template 'for every input the law returns true; each argument reads behind the call as it read before'; 0 by the template 'total and deterministic' (their statements: Qxb6618576aTotals.lean).
  GIVEN WITH THE SEED: the statements are not yours to turn. If you find one false, say at which input.
  Laid BY PROGRAM, IN A SANDBOX (cutbox-rows.mjs): the forced cells as the released guide's own fill.sh prints them over the translation a9b5eeddd9d00a4b… (all of the seat's roots in one cut). By AI agents, Wed Nov 11 2026. No macro, syntax, notation, axiom, sorry.
-/
import Derived.Test.Qxb6618576aChecked
import GoSem.Claim
import GoSem.ClaimJoined
import GoSem.ClaimMapViews
import Derived.JoinedTies
import Derived.KernelRfl
namespace Go.Proofs.Qxb6618576a
/- THE CELL 'sum', in the pinned program and in every row, IS THE sha256 OF THE DUMP (.gsa) THAT Qxb6618576aProg.lean LOADS. Nothing in Lean hashes anything: it is a label: what it is worth is what the hold of that sum in a sandbox is worth. -/
noncomputable def Try.pinned : Pinned := { name := "qxb6618576a", sum := "a9b5eeddd9d00a4b05cb79d9087b00c8c62a0986d6d0e0c00bdfcb979eabcd99", checked := Try.checked }
namespace Rows
def none {H : Type} : Left H := { results := [], args := [] }

/-- 'zzlaws_internal_api_b1.FnModeOfEqualExactlyWhenPermBitsEqual': WHATEVER THE INPUT: true; the input reads as it did. -/
def fnModeOfEqualExactlyWhenPermBitsEqualSpec : ChangeSpec := { name := "fnModeOfEqualExactlyWhenPermBitsEqual", fn := fun _ => fun
  | [d1, d2] => { results := [.lit (.bool true)], args := [d1, d2] }
  | _ => none }
def fnModeOfEqualExactlyWhenPermBitsEqualRow : OpenClaim := { program := "qxb6618576a", sum := "a9b5eeddd9d00a4b05cb79d9087b00c8c62a0986d6d0e0c00bdfcb979eabcd99", func := "example.com/slackwater/slackwater/zzlaws_internal_api_b1.FnModeOfEqualExactlyWhenPermBitsEqual", spec := "fnModeOfEqualExactlyWhenPermBitsEqual", apart := false }
def FnModeOfEqualExactlyWhenPermBitsEqualSaid : Prop := fnModeOfEqualExactlyWhenPermBitsEqualRow.holds Try.pinned (OpenSpec.ofChange fnModeOfEqualExactlyWhenPermBitsEqualSpec)

/-- ITS FALSE NEIGHBOUR: 'it returns false'. Refute it at one input. -/
def fnModeOfEqualExactlyWhenPermBitsEqualWrong : ChangeSpec := { name := "fnModeOfEqualExactlyWhenPermBitsEqual", fn := fun _ => fun
  | [d1, d2] => { results := [.lit (.bool false)], args := [d1, d2] }
  | _ => none }
def FnModeOfEqualExactlyWhenPermBitsEqualWrongFalsely : Prop := fnModeOfEqualExactlyWhenPermBitsEqualRow.holds Try.pinned (OpenSpec.ofChange fnModeOfEqualExactlyWhenPermBitsEqualWrong)

/-- 'zzlaws_internal_api_b1.FnModeOfComplementSplitsThePermBits': WHATEVER THE INPUT: true; the input reads as it did. -/
def fnModeOfComplementSplitsThePermBitsSpec : ChangeSpec := { name := "fnModeOfComplementSplitsThePermBits", fn := fun _ => fun
  | [d] => { results := [.lit (.bool true)], args := [d] }
  | _ => none }
def fnModeOfComplementSplitsThePermBitsRow : OpenClaim := { program := "qxb6618576a", sum := "a9b5eeddd9d00a4b05cb79d9087b00c8c62a0986d6d0e0c00bdfcb979eabcd99", func := "example.com/slackwater/slackwater/zzlaws_internal_api_b1.FnModeOfComplementSplitsThePermBits", spec := "fnModeOfComplementSplitsThePermBits", apart := false }
def FnModeOfComplementSplitsThePermBitsSaid : Prop := fnModeOfComplementSplitsThePermBitsRow.holds Try.pinned (OpenSpec.ofChange fnModeOfComplementSplitsThePermBitsSpec)

/-- ITS FALSE NEIGHBOUR: 'it returns false'. Refute it at one input. -/
def fnModeOfComplementSplitsThePermBitsWrong : ChangeSpec := { name := "fnModeOfComplementSplitsThePermBits", fn := fun _ => fun
  | [d] => { results := [.lit (.bool false)], args := [d] }
  | _ => none }
def FnModeOfComplementSplitsThePermBitsWrongFalsely : Prop := fnModeOfComplementSplitsThePermBitsRow.holds Try.pinned (OpenSpec.ofChange fnModeOfComplementSplitsThePermBitsWrong)

end Rows
end Go.Proofs.Qxb6618576a
