/-
  What the walks ask of the library, paid by the shelf.
-/
import Derived.Test.Qxb6601790aDoorShelf
import Derived.Test.Qxb6601790aDoorRows
import Derived.Test.Qxb6601790aDoorMag
namespace Go.Proofs.Qxb6601790aDoor
open Go.RowKit Num
open Go.Lib (decDigits)

/-- The table's name, off the row's own list. -/
def powName : String := (Rows.fnAddToMagnitudeIsDecimalSumRow.laid.map (·.1)).getD 2 ""

theorem grow_below (w : World) (k : Nat) (os : Array Obj) : Below w.heap.size w (Sort.grow (w.drewN k) os) := by
  refine ⟨rfl, rfl, rfl, ?_, fun i hi => ?_⟩
  · show w.heap.size ≤ (w.heap ++ os).size
    rw [Array.size_append]; omega
  · show (w.heap ++ os)[i]? = _
    rw [Array.getElem?_append_left hi]

theorem paid38 : Said38 powName := by
  intro n w h0 h1 htab
  refine (Any.strconv_FormatInt_10 Tryd.laysM173 n h0 h1 w htab).mono ?_
  rintro e w' ⟨rfl, k, os, rfl⟩
  exact ⟨rfl, grow_below w k os⟩

theorem repeatL_zero (n : Nat) : Lib.repeatL [48] n = List.replicate n 48 := by
  induction n with
  | zero => rfl
  | succ n ih => rw [Lib.repeatL, ih, List.replicate_succ]; rfl

theorem paid39 : Said39 := by
  intro c w h0 h1
  obtain ⟨n, rfl⟩ := Int.eq_ofNat_of_zero_le h0
  refine (Tryd.strings_Repeat ⟨#[48]⟩ n w (by omega) (by show 1 * n ≤ _; omega)).mono ?_
  rintro e w' ⟨rfl, hb⟩
  refine ⟨?_, hb⟩
  rw [Int.toNat_natCast, ← repeatL_zero]

theorem paid40 : Said40 := by
  intro s w
  exact Tryd.strings_TrimLeft_one s 48 (by decide) w

end Go.Proofs.Qxb6601790aDoor
