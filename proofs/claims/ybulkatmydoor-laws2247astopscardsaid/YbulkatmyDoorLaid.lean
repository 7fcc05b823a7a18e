/-
  FROM THE ROW's CONDITION ON math-bits' TABLE TO WHAT THE WALKS ASK ('Tab'); the door's own heap meets the condition.
-/
import Derived.Test.YbulkatmyDoorRows
import Derived.Test.YbulkatmyDoorLeaf
import Derived.ProofKit
import Derived.LaidMore
import Derived.OpenShut
import Derived.Stop.Joined
import Derived.Lib.LaidTab
namespace Go.Proofs.YbulkatmyDoor
open Go.ChangeShapes Go.WideShapes Go.ChangeAt Go.RowKit

theorem own : ownKnob Ybad.prog.godebug = none := by kernel_rfl

/-- The list that the rows bear. -/
def laidL : List (String × DataW Unit) := Rows.lawS2247AAscendingRow.laid
/-- The table's variable, by the name that the rows list. -/
def tabName : String := (laidL.map (·.1)).headD ""
def tabInts : List Int := Lib.deBruijn64tab.map Int.ofNat
theorem laidL_eq : laidL = [(tabName, Lib.tabData .u8 tabInts)] := rfl
theorem gTab : Ybad.prog.globalNamed tabName = some 0 := by kernel_rfl
theorem tTab : (Ybad.prog.globals[0]?).map (·.type) = some 93 := by kernel_rfl
theorem cells93 : Ybad.prog.cellsOf 93 = 64 := by kernel_rfl
theorem cells5 : Ybad.prog.cellsOf 5 = 1 := by kernel_rfl

theorem tab_of_laid {W : World} (h : laidMetH Ybad.prog laidL W) : Tab W := by
  rw [MakeChecks.laidMetH_plain _ _ _ (by kernel_rfl)] at h
  rw [laidL_eq] at h
  have ht := Lib.tabIs_of_head gTab tTab Ybad.underlying93 Ybad.underlying5 cells5 cells93 h
  intro j hj
  have hc := ht.cell gTab j (by simpa [tabInts] using hj)
  have e : tabInts.getD j 0 = ((Lib.deBruijn64tab.getD j 0 : Nat) : Int) := by
    simp [tabInts, List.getD, hj]
  rw [hc, e]

theorem door_met (os : Os) (args : Array Value) : laidMetH Ybad.prog laidL ((World.doorLaid Ybad.prog 14 os).forCall (fun _ _ => 0) ⟨#[], args, []⟩).memory :=
  laidMetH_of_parts3 (fuel := 8) (laidMet_of_run' 8 (by kernel_rfl) (by kernel_rfl)) (by kernel_rfl) (by kernel_rfl)

end Go.Proofs.YbulkatmyDoor
