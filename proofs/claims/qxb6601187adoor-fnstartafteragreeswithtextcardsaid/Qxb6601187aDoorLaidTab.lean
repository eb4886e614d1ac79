/-
  What the rows' condition gives the walks: the table of powers of ten; and the witness's heap, which meets the condition.
-/
import Derived.Test.Qxb6601187aDoorLaw4
import Derived.ProofKit
import Derived.LaidMore
import Derived.OpenShut
import Derived.Stop.Joined
import Derived.Stop.LaidErr
namespace Go.Proofs.Qxb6601187aDoor
open Go.ChangeShapes Go.WideShapes Go.ChangeAt Go.RowKit

theorem own : ownKnob Tryd.prog.godebug = none := by kernel_rfl
theorem gPow : Tryd.prog.globalNamed powName = some 0 := by kernel_rfl

/-- The list of the rows of this seat. -/
theorem laid_shape : Rows.fnStartAfterAgreesWithTextRow.laid = Rows.fnStartAfterAgreesWithTextRow.laid.take 2 ++ [(powName, Lib.tabData .u64 Lib.pow10Tab)] := by kernel_rfl
theorem laid_two : (Rows.fnStartAfterAgreesWithTextRow.laid.take 2).length = 2 := by kernel_rfl
theorem laid_same : Rows.fnStartAfterIgnoresStreamUnlessOldestOrHeadRow.laid = Rows.fnStartAfterAgreesWithTextRow.laid := by kernel_rfl
theorem tPow : (Tryd.prog.globals[0]?).map (·.type) = some 47 := by kernel_rfl

theorem tab_of_laid {W : World} (h : laidMetH Tryd.prog Rows.fnStartAfterAgreesWithTextRow.laid W) : Lib.TabIs Tryd.prog W powName .u64 Lib.pow10Tab := by
  rw [MakeChecks.laidMetH_plain _ _ _ (by kernel_rfl)] at h
  rw [laid_shape] at h
  have e2 := laid_two
  match Rows.fnStartAfterAgreesWithTextRow.laid.take 2, e2, h with
  | [x, y], _, h =>
    exact Lib.tabIs_of_head gPow tPow Tryd.underlying47 Tryd.underlying37 (by kernel_rfl) (by kernel_rfl) (h.tail : laidMet Tryd.prog [y, (powName, Lib.tabData .u64 Lib.pow10Tab)] W).tail
theorem door_met (os : Os) (args : Array Value) : laidMetH Tryd.prog Rows.fnStartAfterAgreesWithTextRow.laid ((World.doorLaid Tryd.prog 400 os).forCall (fun _ _ => 0) ⟨#[], args, []⟩).memory :=
  laidMetH_of_parts3 (fuel := 8) (laidMet_of_run' 8 (by kernel_rfl) (by kernel_rfl)) (by kernel_rfl) (by kernel_rfl)
end Go.Proofs.Qxb6601187aDoor
