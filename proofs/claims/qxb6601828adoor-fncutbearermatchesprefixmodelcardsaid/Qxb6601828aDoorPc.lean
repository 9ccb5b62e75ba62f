/-
  What the row's condition gives: the table of foldings of ASCII.
-/
import Derived.Test.Qxb6601828aDoorTie
import Derived.Test.Qxb6601828aDoorCards
import Derived.Test.Qxb6601828aDoorWd
import Derived.Lib.LaidTab
import Derived.ProofKit
import Derived.Stop.LaidErr
namespace Go.Proofs.Qxb6601828aDoor
open Go.ChangeShapes Go.WideShapes Go.ChangeAt Go.RowKit

theorem own : ownKnob Tryd.prog.godebug = none := by kernel_rfl
/-- unicode.asciiFold. -/
def foldTab : List Int := (List.range 128).map fun i => if i = 107 then 8490 else if i = 115 then 383 else if 65 ≤ i ∧ i ≤ 90 then ((i + 32 : Nat) : Int) else if 97 ≤ i ∧ i ≤ 122 then ((i - 32 : Nat) : Int) else (i : Int)
def foldName : String := (Rows.fnCutBearerMatchesPrefixModelRow.laid.map (·.1)).getD 1 ""
theorem tab_eq : (Rows.laid_unicode_asciiFold : DataW Unit) = Lib.tabData .u16 foldTab := by kernel_rfl
theorem gFold : Tryd.prog.globalNamed foldName = some 0 := by kernel_rfl
theorem tFold : (Tryd.prog.globals[0]?).map (·.type) = some 45 := by kernel_rfl
theorem cells44 : Tryd.prog.cellsOf 44 = 1 := by kernel_rfl
theorem cells45 : Tryd.prog.cellsOf 45 = 128 := by kernel_rfl
theorem tab_of_laid {W : World} (h : laidMetH Tryd.prog Rows.fnCutBearerMatchesPrefixModelRow.laid W) : Lib.TabIs Tryd.prog W foldName .u16 foldTab := by
  rw [MakeChecks.laidMetH_plain _ _ _ (by kernel_rfl)] at h
  have h2 : laidMet Tryd.prog ((foldName, Lib.tabData .u16 foldTab) :: (Rows.fnCutBearerMatchesPrefixModelRow.laid.drop 2)) W := tab_eq ▸ h.tail
  exact Lib.tabIs_of_head gFold tFold Tryd.underlying45 Tryd.underlying44 cells44 cells45 h2
theorem folds_of {W : World} (h : Lib.TabIs Tryd.prog W foldName .u16 foldTab) : Folds W bearer ∧ 0 < W.heap.size := by
  have c : ∀ i z : Nat, i < 128 → foldTab.getD i 0 = (z : Int) → W.cell? ⟨0, i, none⟩ = some (.int .u16 (z : Int)) := fun i z hi hz => by
    rw [h.cell gFold i (by simpa [foldTab] using hi), hz]
  refine ⟨fun j hj => ?_, ?_⟩
  · have hj' : j < 6 := hj
    rcases (show j = 0 ∨ j = 1 ∨ j = 2 ∨ j = 3 ∨ j = 4 ∨ j = 5 by omega) with rfl | rfl | rfl | rfl | rfl | rfl
    · exact ⟨show 66 < 128 by decide, 98, by decide, c 66 98 (by decide) (by decide), c 98 66 (by decide) (by decide)⟩
    · exact ⟨show 101 < 128 by decide, 69, by decide, c 101 69 (by decide) (by decide), c 69 101 (by decide) (by decide)⟩
    · exact ⟨show 97 < 128 by decide, 65, by decide, c 97 65 (by decide) (by decide), c 65 97 (by decide) (by decide)⟩
    · exact ⟨show 114 < 128 by decide, 82, by decide, c 114 82 (by decide) (by decide), c 82 114 (by decide) (by decide)⟩
    · exact ⟨show 101 < 128 by decide, 69, by decide, c 101 69 (by decide) (by decide), c 69 101 (by decide) (by decide)⟩
    · exact ⟨show 114 < 128 by decide, 82, by decide, c 114 82 (by decide) (by decide), c 82 114 (by decide) (by decide)⟩
  · have h1 := c 66 98 (by decide) (by decide)
    rcases Nat.eq_zero_or_pos W.heap.size with h0 | h0
    · unfold World.cell? at h1
      rw [Array.getElem?_eq_none (show W.heap.size ≤ (⟨0, 66, none⟩ : Addr).block by simp [h0])] at h1
      cases h1
    · exact h0

end Go.Proofs.Qxb6601828aDoor
