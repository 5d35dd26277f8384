import Derived.Test.Qxb6605998aDoorLaws
import Derived.Test.Qxb6605998aDoorTie
import Derived.Test.Qxb6605998aDoorCards
import Derived.ProofKit
import Derived.LaidMore
import Derived.OpenShut
import Derived.ShutString
import Derived.Stop.Joined
import Derived.Stop.LaidErr
import Derived.SevenTiedAt
namespace Go.Proofs.Qxb6605998aDoor.names
open Go.ChangeShapes Go.WideShapes Go.ChangeAt Go.RowKit
open Go.ChangeMaps (open_string shut_string)

theorem own : ownKnob Tryd.prog.godebug = none := by kernel_rfl
theorem tabType : (Tryd.prog.globals[1]?).map (·.type) = some 62 := by kernel_rfl
theorem tabArr : Tryd.prog.underlying 62 = some (.array 20 36) := by kernel_rfl
theorem tabElem : Tryd.prog.underlying 36 = some (.int .u64) := by kernel_rfl
theorem tabCells : Tryd.prog.cellsOf 62 = 20 := by kernel_rfl
theorem elemCells : Tryd.prog.cellsOf 36 = 1 := by kernel_rfl

/-- the listed variables -/
def laid3 : List (String × DataW Unit) := Rows.fnStatementNameReadsBackRow.laid
theorem laid3_two : Rows.fnStatementNameTellsApartRow.laid = laid3 := rfl

theorem door_met (os : Os) (args : Array Value) : laidMetH Tryd.prog laid3 ((World.doorLaid Tryd.prog 34 os).forCall (fun _ _ => 0) ⟨#[], args, []⟩).memory :=
  laidMetH_of_parts3 (fuel := 8) (laidMet_of_run' 8 (by kernel_rfl) (by kernel_rfl)) (by kernel_rfl) (by kernel_rfl)

theorem third : laid3.tail.tail = [(tabName, Lib.tabData .u64 Lib.pow10Tab)] := by kernel_rfl

theorem tab_of {W : World} (h : laidMetH Tryd.prog laid3 W) : Lib.TabIs Tryd.prog W tabName .u64 Lib.pow10Tab := by
  rw [MakeChecks.laidMetH_plain _ _ _ (by kernel_rfl)] at h
  have h3 : laidMet Tryd.prog laid3.tail.tail W := laidMet.tail (laidMet.tail h)
  rw [third] at h3
  exact Lib.tabIs_of_head globalTab tabType tabArr tabElem elemCells tabCells h3

end Go.Proofs.Qxb6605998aDoor.names
