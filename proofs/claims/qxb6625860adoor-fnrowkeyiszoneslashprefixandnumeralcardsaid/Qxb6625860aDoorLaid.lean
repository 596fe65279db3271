/-
  Seat b6625860aD: FROM THE ROWS' CONDITION 'laid' TO THE TABLE THAT strconv.Itoa READS; a world that meets the condition (the door's own heap).
-/
import Derived.Test.Qxb6625860aDoorRows
import Derived.Test.Qxb6625860aDoorWalks
import Derived.ProofKit
import Derived.LaidMore
import Derived.OpenShut
import Derived.ShutString
import Derived.Stop.Joined
import Derived.Stop.LaidErr
import Derived.Lib.LaidTab
namespace Go.Proofs.Qxb6625860aDoor
open Go.ChangeShapes Go.WideShapes Go.ChangeAt Go.RowKit

/-- The three listed variables, as both rows list them. -/
def laid3 : List (String × DataW Unit) := Rows.fnRowKeyInjectiveRow.laid

theorem own : ownKnob Tryd.prog.godebug = none := by kernel_rfl
theorem gPow : Tryd.prog.globalNamed powName = some 0 := by kernel_rfl
theorem gPowType : (Tryd.prog.globals[0]?).map (·.type) = some 36 := by kernel_rfl
theorem cells28 : Tryd.prog.cellsOf 28 = 1 := by kernel_rfl
theorem cells36 : Tryd.prog.cellsOf 36 = 20 := by kernel_rfl
theorem powData : (Rows.laid_internal_strconv_uint64pow10 : DataW Unit) = Lib.tabData .u64 Lib.pow10Tab := by kernel_rfl

/-- What the condition gives the walks. -/
theorem tab_of_laid {W : World} (h : laidMetH Tryd.prog laid3 W) : Tab W.heap.size W := by
  rw [MakeChecks.laidMetH_plain _ _ _ (by kernel_rfl)] at h
  have h2 : laidMet Tryd.prog ((powName, Rows.laid_internal_strconv_uint64pow10) :: []) W := laidMet.tail (laidMet.tail h)
  rw [powData] at h2
  exact Lib.tabBelow_of_tabIs (Lib.tabIs_of_head gPow gPowType Tryd.underlying36 Tryd.underlying28 cells28 cells36 h2)

/-- The door's own heap meets the condition. -/
theorem door_met (os : Os) (args : Array Value) : laidMetH Tryd.prog laid3 ((World.doorLaid Tryd.prog 24 os).forCall (fun _ _ => 0) ⟨#[], args, []⟩).memory :=
  laidMetH_of_parts3 (fuel := 8) (laidMet_of_run' 8 (by kernel_rfl) (by kernel_rfl)) (by kernel_rfl) (by kernel_rfl)

end Go.Proofs.Qxb6625860aDoor
