/- What the listed variables give the walks: io.EOF holds a pointer to an errorString. And the start that meets the list: the heap that the door's own run leaves. -/
import Derived.Test.Qxb6618576aDoorRows
import Derived.WalkKit
import Derived.ProofKit
import Derived.LaidMore
import Derived.OpenShut
import Derived.Stop.Joined
import Derived.Stop.LaidErr
namespace Go.Proofs.Qxb6618576aDoor
open Go.ChangeShapes Go.WideShapes Go.ChangeAt Go.RowKit

theorem own : ownKnob Tryd.prog.godebug = none := by kernel_rfl
theorem laidOut : laidOutB Tryd.prog = true := by kernel_rfl
theorem gEof : Tryd.prog.globalNamed "io.EOF" = some 1 := by kernel_rfl
theorem tEof : (Tryd.prog.globals[1]?).map (·.type) = some 25 := by kernel_rfl
theorem cells73 : Tryd.prog.cellsOf 73 = 1 := by kernel_rfl
theorem cells9 : Tryd.prog.cellsOf 9 = 1 := by kernel_rfl
/-- The dynamic type's name, as the row lists it. -/
def nmOf : DataW Unit → String
  | .iface n _ => n
  | _ => ""
theorem row53 (u : TypeId) (h : Tryd.prog.typeName? 3 u = some (nmOf Rows.laid_io_EOF)) : u = 53 :=
  typeName_ptr_named (nm := "errors.errorString") (by kernel_rfl) (by kernel_rfl) (by decide) u (h.trans (by kernel_rfl))

/-- The list, as both rows bear it. -/
def laid3 : List (String × DataW Unit) := Rows.fnReadBodyGivesTheBytesWhateverTheHintsRow.laid
theorem laid3_eq : laid3 = Rows.fnReadBodyOfTwoPartsJoinsToTheWholeRow.laid := rfl

theorem eof_of_laid {W : World} (h : laidMetH Tryd.prog laid3 W) : ∃ ep : Addr, W.cell? ⟨1, 0, none⟩ = some (.iface 53 (.pointer (some ep))) := by
  rw [MakeChecks.laidMetH_plain _ _ _ (by kernel_rfl)] at h
  obtain ⟨a0, s0, hv0, -, -, -⟩ := laid_sentinel h gEof tEof Tryd.underlying25 row53 Tryd.underlying53 Tryd.underlying73 rfl rfl Tryd.underlying9 cells73 cells9
  exact ⟨a0, by have h0 := World.var?_cell gEof hv0 0; simpa using h0⟩

/-- The door's own heap meets the list: closed facts. -/
theorem door_met (os : Os) (args : Array Value) : laidMetH Tryd.prog laid3 ((World.doorLaid Tryd.prog 66 os).forCall (fun _ _ => 0) ⟨#[], args, []⟩).memory :=
  laidMetH_of_parts3 (fuel := 8) (laidMet_of_run' 8 (by kernel_rfl) (by kernel_rfl)) (by kernel_rfl) (by kernel_rfl)
end Go.Proofs.Qxb6618576aDoor
