/-
  What the head of the translation says, by its first words alone: the head's signs as numbers (the kernel is slow at a long string's signs, quick at a list).
-/
import Derived.Test.Qxb6601790aDoorCards
import Derived.ProofKit
namespace Go.Proofs.Qxb6601790aDoor.Head
open Go.ChangeShapes Go.WideShapes Go.ChangeAt Go.RowKit

theorem words_ahead : ∀ (a r : List Char), (a.all fun c => !(c == ' ')) = true → wordsSigns (a ++ ' ' :: r) = a :: wordsSigns r
  | [], r, _ => by simp [wordsSigns]
  | c :: a, r, h => by
    rw [List.all_cons, Bool.and_eq_true] at h
    have hc : c ≠ ' ' := by simpa using h.1
    have ih := words_ahead a r h.2
    rw [List.cons_append, wordsSigns, ih]
    exact hc

def w1 : List Char := [104, 97, 114, 110, 101, 115, 115].map Char.ofNat
def w2 : List Char := [55, 52, 56, 52, 55, 50, 55, 51, 57, 102, 51, 55, 98, 101, 54, 57, 50, 55, 53, 55, 54, 55, 56, 54, 99, 51, 99, 54, 52, 48, 49, 50, 54, 54, 102, 102, 101, 98, 51, 100, 51, 55, 50, 102, 57, 51, 49, 51, 52, 49, 98, 48, 102, 54, 51, 99, 98, 54, 50, 49, 98, 53, 53, 55].map Char.ofNat
def w3 : List Char := [99, 117, 116].map Char.ofNat
def rest : List Char := [97, 116, 32, 101, 120, 97, 109, 112, 108, 101, 46, 99, 111, 109, 47, 108, 105, 98, 117, 115, 104, 101, 114, 47, 108, 105, 98, 117, 115, 104, 101, 114, 47, 122, 122, 108, 97, 119, 115, 95, 105, 110, 116, 101, 114, 110, 97, 108, 95, 100, 101, 99, 105, 109, 97, 108, 95, 98, 49, 46, 70, 110, 65, 100, 100, 84, 111, 77, 97, 103, 110, 105, 116, 117, 100, 101, 73, 115, 68, 101, 99, 105, 109, 97, 108, 83, 117, 109, 32, 101, 120, 97, 109, 112, 108, 101, 46, 99, 111, 109, 47, 108, 105, 98, 117, 115, 104, 101, 114, 47, 108, 105, 98, 117, 115, 104, 101, 114, 47, 122, 122, 108, 97, 119, 115, 95, 105, 110, 116, 101, 114, 110, 97, 108, 95, 100, 101, 99, 105, 109, 97, 108, 95, 98, 49, 46, 70, 110, 65, 100, 100, 84, 111, 77, 97, 103, 110, 105, 116, 117, 100, 101, 83, 117, 98, 116, 114, 97, 99, 116, 105, 110, 103, 85, 110, 100, 111, 101, 115, 32, 101, 120, 97, 109, 112, 108, 101, 46, 99, 111, 109, 47, 108, 105, 98, 117, 115, 104, 101, 114, 47, 108, 105, 98, 117, 115, 104, 101, 114, 47, 122, 122, 108, 97, 119, 115, 95, 105, 110, 116, 101, 114, 110, 97, 108, 95, 100, 101, 99, 105, 109, 97, 108, 95, 98, 49, 46, 70, 110, 82, 101, 97, 100, 83, 116, 114, 68, 101, 99, 105, 109, 97, 108, 77, 97, 116, 99, 104, 101, 115, 71, 114, 97, 109, 109, 97, 114, 65, 110, 100, 86, 97, 108, 117, 101, 32, 101, 120, 97, 109, 112, 108, 101, 46, 99, 111, 109, 47, 108, 105, 98, 117, 115, 104, 101, 114, 47, 108, 105, 98, 117, 115, 104, 101, 114, 47, 122, 122, 108, 97, 119, 115, 95, 105, 110, 116, 101, 114, 110, 97, 108, 95, 100, 101, 99, 105, 109, 97, 108, 95, 98, 49, 46, 70, 110, 82, 101, 97, 100, 83, 116, 114, 68, 101, 99, 105, 109, 97, 108, 67, 97, 110, 111, 110, 105, 99, 97, 108, 84, 101, 120, 116, 73, 115, 70, 105, 120, 101, 100, 80, 111, 105, 110, 116, 32, 101, 120, 97, 109, 112, 108, 101, 46, 99, 111, 109, 47, 108, 105, 98, 117, 115, 104, 101, 114, 47, 108, 105, 98, 117, 115, 104, 101, 114, 47, 122, 122, 108, 97, 119, 115, 95, 105, 110, 116, 101, 114, 110, 97, 108, 95, 100, 101, 99, 105, 109, 97, 108, 95, 98, 49, 46, 70, 110, 82, 101, 97, 100, 83, 116, 114, 68, 101, 99, 105, 109, 97, 108, 76, 101, 97, 100, 105, 110, 103, 90, 101, 114, 111, 67, 104, 97, 110, 103, 101, 115, 78, 111, 116, 104, 105, 110, 103, 32, 101, 120, 97, 109, 112, 108, 101, 46, 99, 111, 109, 47, 108, 105, 98, 117, 115, 104, 101, 114, 47, 108, 105, 98, 117, 115, 104, 101, 114, 47, 122, 122, 108, 97, 119, 115, 95, 105, 110, 116, 101, 114, 110, 97, 108, 95, 100, 101, 99, 105, 109, 97, 108, 95, 98, 49, 46, 70, 110, 65, 112, 112, 101, 110, 100, 87, 114, 105, 116, 101, 115, 67, 97, 110, 111, 110, 105, 99, 97, 108, 84, 101, 120, 116, 32, 101, 120, 97, 109, 112, 108, 101, 46, 99, 111, 109, 47, 108, 105, 98, 117, 115, 104, 101, 114, 47, 108, 105, 98, 117, 115, 104, 101, 114, 47, 122, 122, 108, 97, 119, 115, 95, 105, 110, 116, 101, 114, 110, 97, 108, 95, 100, 101, 99, 105, 109, 97, 108, 95, 98, 49, 46, 70, 110, 65, 112, 112, 101, 110, 100, 84, 101, 120, 116, 82, 101, 97, 100, 115, 66, 97, 99, 107, 65, 115, 83, 97, 109, 101, 78, 117, 109, 98, 101, 114].map Char.ofNat
theorem lit_eq : Tryd.prog.initOrder = String.ofList (w1 ++ ' ' :: (w2 ++ ' ' :: (w3 ++ ' ' :: rest))) := by kernel_rfl
theorem w1_eq : w1 = "harness".toList := by kernel_rfl
theorem w3_eq : w3 = "cut".toList := by kernel_rfl
theorem w2_card : Rows.fnAddToMagnitudeIsDecimalSumCard.stood.harness.2 = String.ofList w2 := by kernel_rfl
theorem plain1 : (w1.all fun c => !(c == ' ')) = true := by kernel_rfl
theorem plain2 : (w2.all fun c => !(c == ' ')) = true := by kernel_rfl
theorem plain3 : (w3.all fun c => !(c == ' ')) = true := by kernel_rfl
theorem words_eq : ∃ R, wordsSigns Tryd.prog.initOrder.toList = "harness".toList :: w2 :: "cut".toList :: R :=
  ⟨wordsSigns rest, by rw [lit_eq, String.toList_ofList, words_ahead _ _ plain1, words_ahead _ _ plain2, words_ahead _ _ plain3, w1_eq, w3_eq]⟩
theorem isSum : isSumSigns w2 = true := by kernel_rfl
theorem behind_eq : ∃ R, behindMainWord (wordsSigns Tryd.prog.initOrder.toList) = "cut".toList :: R := by
  obtain ⟨R, h⟩ := words_eq
  refine ⟨R, ?_⟩
  rw [h, behindMainWord, isSum]
  simp
theorem strip_cut (R : List (List Char)) : stripLifts liftWords ("cut".toList :: R) = ([], "cut".toList :: R) := by
  simp [stripLifts, liftWords]
theorem mainIs_eq : Tryd.prog.mainIs = some (true, w2) := by
  obtain ⟨R, h⟩ := words_eq
  unfold Program.mainIs
  rw [h]
  simp [isSum]
theorem mayEnter : Tryd.prog.mayEnter = true := by kernel_rfl
theorem headLifts : Tryd.prog.headLifts = [] := by
  obtain ⟨R, h⟩ := behind_eq
  unfold Program.headLifts
  rw [h, strip_cut]
  simp
theorem liftsFinal : Tryd.prog.liftsFinal = false := by
  obtain ⟨R, h⟩ := behind_eq
  unfold Program.liftsFinal
  rw [h, headLifts]
  simp
theorem make_cut : Tryd.prog.make = some .cut := by
  obtain ⟨R, h⟩ := behind_eq
  unfold Program.make
  rw [h]
  simp
theorem looks_no : false = Tryd.prog.looks [] := by kernel_rfl
/-- The card's word on the harness. -/
theorem mainIs_card : Tryd.prog.mainIs = some (true, Rows.fnAddToMagnitudeIsDecimalSumCard.stood.harness.2.toList) := by rw [mainIs_eq, w2_card, String.toList_ofList]

end Go.Proofs.Qxb6601790aDoor.Head
