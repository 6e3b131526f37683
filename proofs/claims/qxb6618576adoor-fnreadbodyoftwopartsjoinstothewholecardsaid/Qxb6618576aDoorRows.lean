/-
  NARROWER THAN 'FOR EVERY INPUT', by the rows' own cells (each row's printed sentence says how): FnReadBodyGivesTheBytesWhateverTheHints: laid · FnReadBodyOfTwoPartsJoinsToTheWhole: laid.
  DERIVED. THE GIVEN ROWS OF THIS SEAT. 2 by the template 'for every input the law returns true; each argument reads behind the call as it read before'; 0 by the template 'total and deterministic' (their statements: Qxb6618576aDoorTotals.lean).
  GIVEN WITH THE SEED: the statements are not yours to turn. If you find one false, say at which input.
  Laid BY PROGRAM, IN A SANDBOX (cutbox-rows.mjs): the forced cells as the released guide's own fill.sh prints them over the translation 7e536ef1322d99b0… (all of the seat's roots in one cut). By AI agents, Wed Nov 11 2026. No macro, syntax, notation, axiom, sorry.
-/
import Derived.Test.Qxb6618576aDoorChecked
import GoSem.Claim
import GoSem.ClaimJoined
import GoSem.ClaimMapViews
import Derived.JoinedTies
import Derived.KernelRfl
namespace Go.Proofs.Qxb6618576aDoor
/- THE CELL 'sum', in the pinned program and in every row, IS THE sha256 OF THE DUMP (.gsa) THAT Qxb6618576aDoorProg.lean LOADS. Nothing in Lean hashes anything: it is a label: what it is worth is what the hold of that sum in a sandbox is worth. -/
noncomputable def Tryd.pinned : Pinned := { name := "qxb6618576adoor", sum := "7e536ef1322d99b0616562a7dbb6fcff838d942cf2b8af4e497f906c3e9e7c2d", checked := Tryd.checked }
namespace Rows
def none {H : Type} : Left H := { results := [], args := [] }

/- WHAT THE LISTED PACKAGE-LEVEL VARIABLES READ AS WHEN THE CALL BEGINS. Each datum BY PROGRAM (the guide's laid-datum.mjs) off the statement by which the dump's own 'gosem.cut.vars' lays the variable. In a bare row this is a premise. The card (Qxb6618576aDoorCards.lean) ties it to the program's text. -/
def laid_io_EOF {H : Type} : DataW H := .iface "*errors.errorString" (.ptr (.agg [.lit (.string [69, 79, 70])]))
def laid_bytes_ErrTooLarge {H : Type} : DataW H := .iface "*errors.errorString" (.ptr (.agg [.lit (.string [98, 121, 116, 101, 115, 46, 66, 117, 102, 102, 101, 114, 58, 32, 116, 111, 111, 32, 108, 97, 114, 103, 101])]))
def laid_bytes_errNegativeRead {H : Type} : DataW H := .iface "*errors.errorString" (.ptr (.agg [.lit (.string [98, 121, 116, 101, 115, 46, 66, 117, 102, 102, 101, 114, 58, 32, 114, 101, 97, 100, 101, 114, 32, 114, 101, 116, 117, 114, 110, 101, 100, 32, 110, 101, 103, 97, 116, 105, 118, 101, 32, 99, 111, 117, 110, 116, 32, 102, 114, 111, 109, 32, 82, 101, 97, 100])]))

/-- 'zzlaws_internal_api_b1.FnReadBodyGivesTheBytesWhateverTheHints': WHATEVER THE INPUT: true; the input reads as it did. -/
def fnReadBodyGivesTheBytesWhateverTheHintsSpec : ChangeSpec := { name := "fnReadBodyGivesTheBytesWhateverTheHints", fn := fun _ => fun
  | [d1, d2, d3, d4, d5] => { results := [.lit (.bool true)], args := [d1, d2, d3, d4, d5] }
  | _ => none }
def fnReadBodyGivesTheBytesWhateverTheHintsRow : OpenClaim := { program := "qxb6618576adoor", sum := "7e536ef1322d99b0616562a7dbb6fcff838d942cf2b8af4e497f906c3e9e7c2d", func := "example.com/slackwater/slackwater/zzlaws_internal_api_b1.FnReadBodyGivesTheBytesWhateverTheHints", spec := "fnReadBodyGivesTheBytesWhateverTheHints", unfollowed := true, recurses := true, named := ["bytes.ErrTooLarge", "bytes.errNegativeRead", "io.EOF"], apart := false, laid := [("io.EOF", laid_io_EOF), ("bytes.ErrTooLarge", laid_bytes_ErrTooLarge), ("bytes.errNegativeRead", laid_bytes_errNegativeRead)] }
def FnReadBodyGivesTheBytesWhateverTheHintsSaid : Prop := fnReadBodyGivesTheBytesWhateverTheHintsRow.holds Tryd.pinned (OpenSpec.ofChange fnReadBodyGivesTheBytesWhateverTheHintsSpec)

/-- ITS FALSE NEIGHBOUR: 'it returns false'. Refute it at one input. -/
def fnReadBodyGivesTheBytesWhateverTheHintsWrong : ChangeSpec := { name := "fnReadBodyGivesTheBytesWhateverTheHints", fn := fun _ => fun
  | [d1, d2, d3, d4, d5] => { results := [.lit (.bool false)], args := [d1, d2, d3, d4, d5] }
  | _ => none }
def FnReadBodyGivesTheBytesWhateverTheHintsWrongFalsely : Prop := fnReadBodyGivesTheBytesWhateverTheHintsRow.holds Tryd.pinned (OpenSpec.ofChange fnReadBodyGivesTheBytesWhateverTheHintsWrong)

/-- 'zzlaws_internal_api_b1.FnReadBodyOfTwoPartsJoinsToTheWhole': WHATEVER THE INPUT: true; the input reads as it did. -/
def fnReadBodyOfTwoPartsJoinsToTheWholeSpec : ChangeSpec := { name := "fnReadBodyOfTwoPartsJoinsToTheWhole", fn := fun _ => fun
  | [d1, d2, d3, d4] => { results := [.lit (.bool true)], args := [d1, d2, d3, d4] }
  | _ => none }
def fnReadBodyOfTwoPartsJoinsToTheWholeRow : OpenClaim := { program := "qxb6618576adoor", sum := "7e536ef1322d99b0616562a7dbb6fcff838d942cf2b8af4e497f906c3e9e7c2d", func := "example.com/slackwater/slackwater/zzlaws_internal_api_b1.FnReadBodyOfTwoPartsJoinsToTheWhole", spec := "fnReadBodyOfTwoPartsJoinsToTheWhole", unfollowed := true, recurses := true, named := ["bytes.ErrTooLarge", "bytes.errNegativeRead", "io.EOF"], apart := false, laid := [("io.EOF", laid_io_EOF), ("bytes.ErrTooLarge", laid_bytes_ErrTooLarge), ("bytes.errNegativeRead", laid_bytes_errNegativeRead)] }
def FnReadBodyOfTwoPartsJoinsToTheWholeSaid : Prop := fnReadBodyOfTwoPartsJoinsToTheWholeRow.holds Tryd.pinned (OpenSpec.ofChange fnReadBodyOfTwoPartsJoinsToTheWholeSpec)

/-- ITS FALSE NEIGHBOUR: 'it returns false'. Refute it at one input. -/
def fnReadBodyOfTwoPartsJoinsToTheWholeWrong : ChangeSpec := { name := "fnReadBodyOfTwoPartsJoinsToTheWhole", fn := fun _ => fun
  | [d1, d2, d3, d4] => { results := [.lit (.bool false)], args := [d1, d2, d3, d4] }
  | _ => none }
def FnReadBodyOfTwoPartsJoinsToTheWholeWrongFalsely : Prop := fnReadBodyOfTwoPartsJoinsToTheWholeRow.holds Tryd.pinned (OpenSpec.ofChange fnReadBodyOfTwoPartsJoinsToTheWholeWrong)

end Rows
end Go.Proofs.Qxb6618576aDoor
