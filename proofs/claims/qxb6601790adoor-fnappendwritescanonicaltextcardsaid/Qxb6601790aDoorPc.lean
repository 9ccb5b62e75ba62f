/-
  What the rows share: the table of powers of ten out of the row's condition.
-/
import Derived.Test.Qxb6601790aDoorLib
import Derived.ProofKit
import Derived.OpenShut
import Derived.Lay
import Derived.Stop.LaidErr
import Derived.SevenTiedAt
namespace Go.Proofs.Qxb6601790aDoor
open Go.ChangeShapes Go.WideShapes Go.ChangeAt Go.RowKit

theorem own : ownKnob Tryd.prog.godebug = none := by kernel_rfl
theorem tab_eq : (Rows.laid_internal_strconv_uint64pow10 : DataW Unit) = Lib.tabData .u64 Lib.pow10Tab := by kernel_rfl
theorem gPow : Tryd.prog.globalNamed powName = some 0 := by kernel_rfl
theorem tPow : (Tryd.prog.globals[0]?).map (·.type) = some 99 := by kernel_rfl
theorem cells40 : Tryd.prog.cellsOf 40 = 1 := by kernel_rfl
theorem cells99 : Tryd.prog.cellsOf 99 = 20 := by kernel_rfl
/-- The row's condition gives the table of powers of ten. -/
theorem tab_of_laid {W : World} (h : laidMetH Tryd.prog Rows.fnAddToMagnitudeIsDecimalSumRow.laid W) : Tab powName W := by
  rw [MakeChecks.laidMetH_plain _ _ _ (by kernel_rfl)] at h
  have h2 : laidMet Tryd.prog ((powName, Lib.tabData .u64 Lib.pow10Tab) :: (Rows.fnAddToMagnitudeIsDecimalSumRow.laid.drop 3)) W := tab_eq ▸ h.tail.tail
  exact Lib.tabIs_of_head gPow tPow Tryd.underlying99 Tryd.underlying40 cells40 cells99 h2

end Go.Proofs.Qxb6601790aDoor
