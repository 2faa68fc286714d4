/-
  What the listed variables give the walks, and the start that fits (the heap that the door's own run leaves).
-/
import Derived.Test.Qxb6614008aDoorLay
import Derived.ProofKit
import Derived.LaidMore
import Derived.Stop.LaidErr
import Derived.Stop.Joined
import Derived.Lib.LaidTab
namespace Go.Proofs.Qxb6614008aDoor
open Go.ChangeShapes Go.WideShapes Go.ChangeAt Go.RowKit

theorem own : ownKnob Tryd.prog.godebug = none := by kernel_rfl
theorem gPow : Tryd.prog.globalNamed Tryd.powName = some 0 := by kernel_rfl
theorem tPow : (Tryd.prog.globals[0]?).map (·.type) = some 46 := by kernel_rfl
theorem c29 : Tryd.prog.cellsOf 29 = 1 := by kernel_rfl
theorem c46 : Tryd.prog.cellsOf 46 = 20 := by kernel_rfl

/-- The list of both rows. -/
def laid3 : List (String × DataW Unit) := Rows.fnIntegerLastDigitRow.laid

theorem powData : (Rows.laid_internal_strconv_uint64pow10 : DataW Unit) = Lib.tabData .u64 Lib.pow10Tab := by kernel_rfl

/-- The heap that the door's own run leaves meets the list. -/
theorem door_met (os : Os) (args : Array Value) : laidMetH Tryd.prog laid3 ((World.doorLaid Tryd.prog 400 os).forCall (fun _ _ => 0) ⟨#[], args, []⟩).memory :=
  laidMetH_of_parts3 (fuel := 8) (laidMet_of_run' 8 (by kernel_rfl) (by kernel_rfl)) (by kernel_rfl) (by kernel_rfl)

/-- The table of powers of ten, out of the list. -/
theorem tab_of_laid {W : World} (h : laidMetH Tryd.prog laid3 W) : Lib.TabIs Tryd.prog W Tryd.powName .u64 Lib.pow10Tab := by
  rw [MakeChecks.laidMetH_plain _ _ _ (by kernel_rfl)] at h
  have h2 : laidMet Tryd.prog [(Tryd.powName, Rows.laid_internal_strconv_uint64pow10)] W := laidMet.tail (laidMet.tail h)
  rw [powData] at h2
  exact Lib.tabIs_of_head gPow tPow Tryd.underlying46 Tryd.underlying29 c29 c46 h2

end Go.Proofs.Qxb6614008aDoor
