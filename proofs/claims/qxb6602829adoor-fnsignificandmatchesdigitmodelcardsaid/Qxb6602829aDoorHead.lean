/-
  What the head of the translation says, by its first words alone: the head's signs as numbers (the kernel is slow at a long string's signs, quick at a list).
-/
import Derived.Test.Qxb6602829aDoorCards
import Derived.ProofKit
namespace Go.Proofs.Qxb6602829aDoor.Head
open Go.ChangeShapes Go.WideShapes Go.ChangeAt Go.RowKit

theorem words_ahead : ∀ (a r : List Char), (a.all fun c => !(c == ' ')) = true → wordsSigns (a ++ ' ' :: r) = a :: wordsSigns r
  | [], r, _ => by simp [wordsSigns]
  | c :: a, r, h => by
    rw [List.all_cons, Bool.and_eq_true] at h
    have hc : c ≠ ' ' := by simpa using h.1
    have ih := words_ahead a r h.2
    rw [List.cons_append, wordsSigns, ih]
    exact hc

def w1 : List Char := [104, 97, 114, 110, 101, 115, 115].map Char.ofNat
def w2 : List Char := [52, 57, 52, 101, 98, 48, 55, 54, 52, 98, 51, 50, 49, 51, 100, 102, 48, 52, 97, 56, 54, 50, 102, 53, 54, 56, 52, 56, 52, 99, 97, 49, 49, 54, 98, 52, 97, 48, 53, 57, 56, 49, 102, 51, 50, 53, 56, 98, 52, 54, 51, 49, 101, 100, 50, 99, 49, 55, 57, 101, 98, 54, 50, 100].map Char.ofNat
def w3 : List Char := [99, 117, 116].map Char.ofNat
def rest : List Char := [97, 116, 32, 101, 120, 97, 109, 112, 108, 101, 46, 99, 111, 109, 47, 115, 116, 114, 105, 107, 101, 119, 101, 108, 108, 47, 115, 116, 114, 105, 107, 101, 119, 101, 108, 108, 47, 122, 122, 108, 97, 119, 115, 95, 112, 107, 103, 95, 97, 109, 111, 117, 110, 116, 95, 98, 49, 46, 70, 110, 83, 105, 103, 110, 105, 102, 105, 99, 97, 110, 100, 77, 97, 116, 99, 104, 101, 115, 68, 105, 103, 105, 116, 77, 111, 100, 101, 108].map Char.ofNat
theorem lit_eq : Tryd.prog.initOrder = String.ofList (w1 ++ ' ' :: (w2 ++ ' ' :: (w3 ++ ' ' :: rest))) := by kernel_rfl
theorem w1_eq : w1 = "harness".toList := by kernel_rfl
theorem w3_eq : w3 = "cut".toList := by kernel_rfl
theorem w2_card : Rows.fnSignificandMatchesDigitModelCard.stood.harness.2 = String.ofList w2 := by kernel_rfl
theorem plain1 : (w1.all fun c => !(c == ' ')) = true := by kernel_rfl
theorem plain2 : (w2.all fun c => !(c == ' ')) = true := by kernel_rfl
theorem plain3 : (w3.all fun c => !(c == ' ')) = true := by kernel_rfl
theorem words_eq : ∃ R, wordsSigns Tryd.prog.initOrder.toList = "harness".toList :: w2 :: "cut".toList :: R :=
  ⟨wordsSigns rest, by rw [lit_eq, String.toList_ofList, words_ahead _ _ plain1, words_ahead _ _ plain2, words_ahead _ _ plain3, w1_eq, w3_eq]⟩
theorem isSum : isSumSigns w2 = true := by kernel_rfl
theorem behind_eq : ∃ R, behindMainWord (wordsSigns Tryd.prog.initOrder.toList) = "cut".toList :: R := by
  obtain ⟨R, h⟩ := words_eq
  refine ⟨R, ?_⟩
  rw [h, behindMainWord, isSum]
  simp
theorem strip_cut (R : List (List Char)) : stripLifts liftWords ("cut".toList :: R) = ([], "cut".toList :: R) := by
  simp [stripLifts, liftWords]
theorem mainIs_eq : Tryd.prog.mainIs = some (true, w2) := by
  obtain ⟨R, h⟩ := words_eq
  unfold Program.mainIs
  rw [h]
  simp [isSum]
theorem mayEnter : Tryd.prog.mayEnter = true := by kernel_rfl
theorem headLifts : Tryd.prog.headLifts = [] := by
  obtain ⟨R, h⟩ := behind_eq
  unfold Program.headLifts
  rw [h, strip_cut]
  simp
theorem liftsFinal : Tryd.prog.liftsFinal = false := by
  obtain ⟨R, h⟩ := behind_eq
  unfold Program.liftsFinal
  rw [h, headLifts]
  simp
theorem make_cut : Tryd.prog.make = some .cut := by
  obtain ⟨R, h⟩ := behind_eq
  unfold Program.make
  rw [h]
  simp
theorem looks_no : false = Tryd.prog.looks [] := by kernel_rfl
/-- The card's word on the harness. -/
theorem mainIs_card : Tryd.prog.mainIs = some (true, Rows.fnSignificandMatchesDigitModelCard.stood.harness.2.toList) := by rw [mainIs_eq, w2_card, String.toList_ofList]

end Go.Proofs.Qxb6602829aDoor.Head
