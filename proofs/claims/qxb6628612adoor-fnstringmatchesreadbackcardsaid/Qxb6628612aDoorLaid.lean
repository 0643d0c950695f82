/-
  WHAT THE ROWS' LISTED VARIABLES GIVE THE WALKS: strconv's table of powers of ten; and that the door's own heap meets the condition (after the guide's MapyProofs.lean).
-/
import Derived.Test.Qxb6628612aDoorString
import Derived.ProofKit
import Derived.LaidMore
import Derived.OpenShut
import Derived.Stop.Joined
import Derived.Stop.LaidErr
import Derived.Lib.LaidTab
namespace Go.Proofs.Qxb6628612aDoor
open Go.ChangeShapes Go.WideShapes Go.ChangeAt Go.RowKit

theorem own : ownKnob Tryd.prog.godebug = none := by kernel_rfl

/-- What the rows list (both list the same). -/
def laid3 : List (String × DataW Unit) := Rows.fnStringInjectiveRow.laid

theorem door_met (os : Os) (args : Array Value) : laidMetH Tryd.prog laid3 ((World.doorLaid Tryd.prog 24 os).forCall (fun _ _ => 0) ⟨#[], args, []⟩).memory :=
  laidMetH_of_parts3 (fuel := 8) (laidMet_of_run' 8 (by kernel_rfl) (by kernel_rfl)) (by kernel_rfl) (by kernel_rfl)

theorem gPow : Tryd.prog.globalNamed tabName = some 0 := by kernel_rfl
theorem tPow : (Tryd.prog.globals[0]?).map (·.type) = some 61 := by kernel_rfl
theorem cells48 : Tryd.prog.cellsOf 48 = 1 := by kernel_rfl
theorem cells61 : Tryd.prog.cellsOf 61 = 20 := by kernel_rfl
theorem datum_is : (Rows.laid_internal_strconv_uint64pow10 : DataW Unit) = Lib.tabData .u64 Lib.pow10Tab := by kernel_rfl

theorem of_laid {W : World} (h : laidMetH Tryd.prog laid3 W) : Lib.TabIs Tryd.prog W tabName .u64 Lib.pow10Tab := by
  rw [MakeChecks.laidMetH_plain _ _ _ (by kernel_rfl)] at h
  have h2 : laidMet Tryd.prog [(tabName, Lib.tabData .u64 Lib.pow10Tab)] W := by
    rw [← datum_is]
    exact laidMet.tail (laidMet.tail h)
  exact Lib.tabIs_of_head gPow tPow Tryd.underlying61 Tryd.underlying48 cells48 cells61 h2

end Go.Proofs.Qxb6628612aDoor
