/-
  DERIVED. GIVEN WITH THE SEED: THE CARDS: each row of Qxb6618576aDoorRows.lean that lists a variable, with what it lists TIED to the program's text (the seventh form; the later family's looks); each row that meets fmt, with fmt's text TOLD by the authors' own Lean function (tested against real Go, not proved from fmt's source: count such statements apart). THE CARD IS WHAT COUNTS. Prove the row's statement (the work); the ties are given (Qxb6618576aDoorTie.lean); close each card by the builder's one call (the guide's Derived/Test/ToyasCard.lean, 'card_holds'). Laid BY PROGRAM, IN A SANDBOX (cutbox-door.mjs). By AI agents, Wed Nov 11 2026. No macro, syntax, notation, axiom, sorry.
-/
import Derived.Test.Qxb6618576aDoorRows
import GoSem.ClaimSeven
namespace Go.Proofs.Qxb6618576aDoor
namespace Rows

/-- THE TIED CARD OF 'zzlaws_internal_api_b1.FnReadBodyGivesTheBytesWhateverTheHints'. -/
def fnReadBodyGivesTheBytesWhateverTheHintsCard : Claim7 := { stood := { row := fnReadBodyGivesTheBytesWhateverTheHintsRow, standIns := [], harness := (true, "f0b8591fcf534806bd6d98b2b28127cc6f3f4ebb3ea58786b064426e319082d6"), looks := true }, kinds := [], alts := [], laidByText := true, laidKinds := [.called, .called, .called], laidTests := true, laidLooks := .later }
def FnReadBodyGivesTheBytesWhateverTheHintsCardSaid : Prop := Claim7.holds Tryd.pinned (.plain (OpenSpec.ofChange fnReadBodyGivesTheBytesWhateverTheHintsSpec)) fnReadBodyGivesTheBytesWhateverTheHintsCard

/-- THE TIED CARD OF 'zzlaws_internal_api_b1.FnReadBodyOfTwoPartsJoinsToTheWhole'. -/
def fnReadBodyOfTwoPartsJoinsToTheWholeCard : Claim7 := { stood := { row := fnReadBodyOfTwoPartsJoinsToTheWholeRow, standIns := [], harness := (true, "f0b8591fcf534806bd6d98b2b28127cc6f3f4ebb3ea58786b064426e319082d6"), looks := true }, kinds := [], alts := [], laidByText := true, laidKinds := [.called, .called, .called], laidTests := true, laidLooks := .later }
def FnReadBodyOfTwoPartsJoinsToTheWholeCardSaid : Prop := Claim7.holds Tryd.pinned (.plain (OpenSpec.ofChange fnReadBodyOfTwoPartsJoinsToTheWholeSpec)) fnReadBodyOfTwoPartsJoinsToTheWholeCard
end Rows
end Go.Proofs.Qxb6618576aDoor
