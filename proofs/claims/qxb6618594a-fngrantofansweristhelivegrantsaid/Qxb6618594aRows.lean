/-
  No cell of these rows narrows 'for every input' (looked for: loops, veiled, ifaces, maps, wideKeys, modest, calm, conditions, laid).
  DERIVED. THE GIVEN ROWS OF THIS SEAT. 6 by the template 'for every input the law returns true; each argument reads behind the call as it read before'; 0 by the template 'total and deterministic' (their statements: Qxb6618594aTotals.lean).
  GIVEN WITH THE SEED: the statements are not yours to turn. If you find one false, say at which input.
  Laid BY PROGRAM, IN A SANDBOX (cutbox-rows.mjs): the forced cells as the released guide's own fill.sh prints them over the translation a77b9392b6fe3aa8… (all of the seat's roots in one cut). By AI agents, Wed Nov 11 2026. No macro, syntax, notation, axiom, sorry.
-/
import Derived.Test.Qxb6618594aChecked
import GoSem.Claim
import GoSem.ClaimJoined
import GoSem.ClaimMapViews
import Derived.JoinedTies
import Derived.KernelRfl
namespace Go.Proofs.Qxb6618594a
/- THE CELL 'sum', in the pinned program and in every row, IS THE sha256 OF THE DUMP (.gsa) THAT Qxb6618594aProg.lean LOADS. Nothing in Lean hashes anything: it is a label: what it is worth is what the hold of that sum in a sandbox is worth. -/
noncomputable def Try.pinned : Pinned := { name := "qxb6618594a", sum := "a77b9392b6fe3aa8ba13376b94586b7617dd5c9a50c5d7026b5309f08f230290", checked := Try.checked }
namespace Rows
def none {H : Type} : Left H := { results := [], args := [] }

/-- 'zzlaws_internal_engine_b1.FnVarintSizeGrowsByOneEverySevenBits': WHATEVER THE INPUT: true; the input reads as it did. -/
def fnVarintSizeGrowsByOneEverySevenBitsSpec : ChangeSpec := { name := "fnVarintSizeGrowsByOneEverySevenBits", fn := fun _ => fun
  | [d] => { results := [.lit (.bool true)], args := [d] }
  | _ => none }
def fnVarintSizeGrowsByOneEverySevenBitsRow : OpenClaim := { program := "qxb6618594a", sum := "a77b9392b6fe3aa8ba13376b94586b7617dd5c9a50c5d7026b5309f08f230290", func := "example.com/redoubt/redoubt/zzlaws_internal_engine_b1.FnVarintSizeGrowsByOneEverySevenBits", spec := "fnVarintSizeGrowsByOneEverySevenBits", plainKeys := false, apart := false }
def FnVarintSizeGrowsByOneEverySevenBitsSaid : Prop := fnVarintSizeGrowsByOneEverySevenBitsRow.holds Try.pinned (OpenSpec.ofChange fnVarintSizeGrowsByOneEverySevenBitsSpec)

/-- ITS FALSE NEIGHBOUR: 'it returns false'. Refute it at one input. -/
def fnVarintSizeGrowsByOneEverySevenBitsWrong : ChangeSpec := { name := "fnVarintSizeGrowsByOneEverySevenBits", fn := fun _ => fun
  | [d] => { results := [.lit (.bool false)], args := [d] }
  | _ => none }
def FnVarintSizeGrowsByOneEverySevenBitsWrongFalsely : Prop := fnVarintSizeGrowsByOneEverySevenBitsRow.holds Try.pinned (OpenSpec.ofChange fnVarintSizeGrowsByOneEverySevenBitsWrong)

/-- 'zzlaws_internal_engine_b1.FnVarintSizeIsLeastGroupsThatHoldX': WHATEVER THE INPUT: true; the input reads as it did. -/
def fnVarintSizeIsLeastGroupsThatHoldXSpec : ChangeSpec := { name := "fnVarintSizeIsLeastGroupsThatHoldX", fn := fun _ => fun
  | [d] => { results := [.lit (.bool true)], args := [d] }
  | _ => none }
def fnVarintSizeIsLeastGroupsThatHoldXRow : OpenClaim := { program := "qxb6618594a", sum := "a77b9392b6fe3aa8ba13376b94586b7617dd5c9a50c5d7026b5309f08f230290", func := "example.com/redoubt/redoubt/zzlaws_internal_engine_b1.FnVarintSizeIsLeastGroupsThatHoldX", spec := "fnVarintSizeIsLeastGroupsThatHoldX", plainKeys := false, apart := false }
def FnVarintSizeIsLeastGroupsThatHoldXSaid : Prop := fnVarintSizeIsLeastGroupsThatHoldXRow.holds Try.pinned (OpenSpec.ofChange fnVarintSizeIsLeastGroupsThatHoldXSpec)

/-- ITS FALSE NEIGHBOUR: 'it returns false'. Refute it at one input. -/
def fnVarintSizeIsLeastGroupsThatHoldXWrong : ChangeSpec := { name := "fnVarintSizeIsLeastGroupsThatHoldX", fn := fun _ => fun
  | [d] => { results := [.lit (.bool false)], args := [d] }
  | _ => none }
def FnVarintSizeIsLeastGroupsThatHoldXWrongFalsely : Prop := fnVarintSizeIsLeastGroupsThatHoldXRow.holds Try.pinned (OpenSpec.ofChange fnVarintSizeIsLeastGroupsThatHoldXWrong)

/-- 'zzlaws_internal_engine_b1.FnPointAndRangeHoldsJustTheKeyIfInRange': WHATEVER THE INPUT: true; the input reads as it did. -/
def fnPointAndRangeHoldsJustTheKeyIfInRangeSpec : ChangeSpec := { name := "fnPointAndRangeHoldsJustTheKeyIfInRange", fn := fun _ => fun
  | [d1, d2, d3] => { results := [.lit (.bool true)], args := [d1, d2, d3] }
  | _ => none }
def fnPointAndRangeHoldsJustTheKeyIfInRangeRow : OpenClaim := { program := "qxb6618594a", sum := "a77b9392b6fe3aa8ba13376b94586b7617dd5c9a50c5d7026b5309f08f230290", func := "example.com/redoubt/redoubt/zzlaws_internal_engine_b1.FnPointAndRangeHoldsJustTheKeyIfInRange", spec := "fnPointAndRangeHoldsJustTheKeyIfInRange", inPlace := ["internal/bytealg.abigen_runtime_cmpstring"], plainKeys := false, apart := false }
def FnPointAndRangeHoldsJustTheKeyIfInRangeSaid : Prop := fnPointAndRangeHoldsJustTheKeyIfInRangeRow.holds Try.pinned (OpenSpec.ofChange fnPointAndRangeHoldsJustTheKeyIfInRangeSpec)

/-- ITS FALSE NEIGHBOUR: 'it returns false'. Refute it at one input. -/
def fnPointAndRangeHoldsJustTheKeyIfInRangeWrong : ChangeSpec := { name := "fnPointAndRangeHoldsJustTheKeyIfInRange", fn := fun _ => fun
  | [d1, d2, d3] => { results := [.lit (.bool false)], args := [d1, d2, d3] }
  | _ => none }
def FnPointAndRangeHoldsJustTheKeyIfInRangeWrongFalsely : Prop := fnPointAndRangeHoldsJustTheKeyIfInRangeRow.holds Try.pinned (OpenSpec.ofChange fnPointAndRangeHoldsJustTheKeyIfInRangeWrong)

/-- 'zzlaws_internal_engine_b1.FnAndIsIntersectionAndCommutes': WHATEVER THE INPUT: true; the input reads as it did. -/
def fnAndIsIntersectionAndCommutesSpec : ChangeSpec := { name := "fnAndIsIntersectionAndCommutes", fn := fun _ => fun
  | [d1, d2, d3] => { results := [.lit (.bool true)], args := [d1, d2, d3] }
  | _ => none }
def fnAndIsIntersectionAndCommutesRow : OpenClaim := { program := "qxb6618594a", sum := "a77b9392b6fe3aa8ba13376b94586b7617dd5c9a50c5d7026b5309f08f230290", func := "example.com/redoubt/redoubt/zzlaws_internal_engine_b1.FnAndIsIntersectionAndCommutes", spec := "fnAndIsIntersectionAndCommutes", inPlace := ["internal/bytealg.abigen_runtime_cmpstring"], plainKeys := false, apart := false }
def FnAndIsIntersectionAndCommutesSaid : Prop := fnAndIsIntersectionAndCommutesRow.holds Try.pinned (OpenSpec.ofChange fnAndIsIntersectionAndCommutesSpec)

/-- ITS FALSE NEIGHBOUR: 'it returns false'. Refute it at one input. -/
def fnAndIsIntersectionAndCommutesWrong : ChangeSpec := { name := "fnAndIsIntersectionAndCommutes", fn := fun _ => fun
  | [d1, d2, d3] => { results := [.lit (.bool false)], args := [d1, d2, d3] }
  | _ => none }
def FnAndIsIntersectionAndCommutesWrongFalsely : Prop := fnAndIsIntersectionAndCommutesRow.holds Try.pinned (OpenSpec.ofChange fnAndIsIntersectionAndCommutesWrong)

/-- 'zzlaws_internal_engine_b1.FnGrantOfFindsTheGrantWhereverItStands': WHATEVER THE INPUT: true; the input reads as it did. -/
def fnGrantOfFindsTheGrantWhereverItStandsSpec : ChangeSpec := { name := "fnGrantOfFindsTheGrantWhereverItStands", fn := fun _ => fun
  | [d1, d2] => { results := [.lit (.bool true)], args := [d1, d2] }
  | _ => none }
def fnGrantOfFindsTheGrantWhereverItStandsRow : OpenClaim := { program := "qxb6618594a", sum := "a77b9392b6fe3aa8ba13376b94586b7617dd5c9a50c5d7026b5309f08f230290", func := "example.com/redoubt/redoubt/zzlaws_internal_engine_b1.FnGrantOfFindsTheGrantWhereverItStands", spec := "fnGrantOfFindsTheGrantWhereverItStands", plainKeys := false, apart := false }
def FnGrantOfFindsTheGrantWhereverItStandsSaid : Prop := fnGrantOfFindsTheGrantWhereverItStandsRow.holds Try.pinned (OpenSpec.ofChange fnGrantOfFindsTheGrantWhereverItStandsSpec)

/-- ITS FALSE NEIGHBOUR: 'it returns false'. Refute it at one input. -/
def fnGrantOfFindsTheGrantWhereverItStandsWrong : ChangeSpec := { name := "fnGrantOfFindsTheGrantWhereverItStands", fn := fun _ => fun
  | [d1, d2] => { results := [.lit (.bool false)], args := [d1, d2] }
  | _ => none }
def FnGrantOfFindsTheGrantWhereverItStandsWrongFalsely : Prop := fnGrantOfFindsTheGrantWhereverItStandsRow.holds Try.pinned (OpenSpec.ofChange fnGrantOfFindsTheGrantWhereverItStandsWrong)

/-- 'zzlaws_internal_engine_b1.FnGrantOfAnswerIsTheLiveGrant': WHATEVER THE INPUT: true; the input reads as it did. -/
def fnGrantOfAnswerIsTheLiveGrantSpec : ChangeSpec := { name := "fnGrantOfAnswerIsTheLiveGrant", fn := fun _ => fun
  | [d1, d2, d3, d4, d5] => { results := [.lit (.bool true)], args := [d1, d2, d3, d4, d5] }
  | _ => none }
def fnGrantOfAnswerIsTheLiveGrantRow : OpenClaim := { program := "qxb6618594a", sum := "a77b9392b6fe3aa8ba13376b94586b7617dd5c9a50c5d7026b5309f08f230290", func := "example.com/redoubt/redoubt/zzlaws_internal_engine_b1.FnGrantOfAnswerIsTheLiveGrant", spec := "fnGrantOfAnswerIsTheLiveGrant", plainKeys := false, apart := false }
def FnGrantOfAnswerIsTheLiveGrantSaid : Prop := fnGrantOfAnswerIsTheLiveGrantRow.holds Try.pinned (OpenSpec.ofChange fnGrantOfAnswerIsTheLiveGrantSpec)

/-- ITS FALSE NEIGHBOUR: 'it returns false'. Refute it at one input. -/
def fnGrantOfAnswerIsTheLiveGrantWrong : ChangeSpec := { name := "fnGrantOfAnswerIsTheLiveGrant", fn := fun _ => fun
  | [d1, d2, d3, d4, d5] => { results := [.lit (.bool false)], args := [d1, d2, d3, d4, d5] }
  | _ => none }
def FnGrantOfAnswerIsTheLiveGrantWrongFalsely : Prop := fnGrantOfAnswerIsTheLiveGrantRow.holds Try.pinned (OpenSpec.ofChange fnGrantOfAnswerIsTheLiveGrantWrong)

end Rows
end Go.Proofs.Qxb6618594a
