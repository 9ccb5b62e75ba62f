/-
  What the head of the translation says, by its first words alone: the head's signs as numbers (the kernel is slow at a long string's signs, quick at a list).
-/
import Derived.Test.Qxb6601828aDoorCards
import Derived.ProofKit
namespace Go.Proofs.Qxb6601828aDoor.Head
open Go.ChangeShapes Go.WideShapes Go.ChangeAt Go.RowKit

theorem words_ahead : ∀ (a r : List Char), (a.all fun c => !(c == ' ')) = true → wordsSigns (a ++ ' ' :: r) = a :: wordsSigns r
  | [], r, _ => by simp [wordsSigns]
  | c :: a, r, h => by
    rw [List.all_cons, Bool.and_eq_true] at h
    have hc : c ≠ ' ' := by simpa using h.1
    have ih := words_ahead a r h.2
    rw [List.cons_append, wordsSigns, ih]
    exact hc

def w1 : List Char := [104, 97, 114, 110, 101, 115, 115].map Char.ofNat
def w2 : List Char := [48, 50, 51, 55, 48, 57, 53, 54, 48, 98, 48, 100, 56, 98, 55, 50, 98, 53, 53, 51, 54, 53, 54, 56, 53, 51, 54, 54, 97, 97, 50, 101, 98, 51, 50, 57, 101, 102, 49, 55, 99, 102, 102, 100, 56, 51, 52, 100, 56, 102, 54, 52, 55, 54, 102, 102, 98, 48, 51, 51, 99, 54, 100, 54].map Char.ofNat
def w3 : List Char := [99, 117, 116].map Char.ofNat
def rest : List Char := [97, 116, 32, 101, 120, 97, 109, 112, 108, 101, 46, 99, 111, 109, 47, 108, 97, 110, 101, 100, 47, 108, 97, 110, 101, 100, 47, 122, 122, 108, 97, 119, 115, 95, 112, 107, 103, 95, 104, 101, 97, 100, 101, 114, 95, 98, 49, 46, 70, 110, 67, 117, 116, 66, 101, 97, 114, 101, 114, 77, 97, 116, 99, 104, 101, 115, 80, 114, 101, 102, 105, 120, 77, 111, 100, 101, 108, 32, 101, 120, 97, 109, 112, 108, 101, 46, 99, 111, 109, 47, 108, 97, 110, 101, 100, 47, 108, 97, 110, 101, 100, 47, 122, 122, 108, 97, 119, 115, 95, 112, 107, 103, 95, 104, 101, 97, 100, 101, 114, 95, 98, 49, 46, 70, 110, 67, 117, 116, 66, 101, 97, 114, 101, 114, 84, 97, 107, 101, 115, 79, 102, 102, 69, 118, 101, 114, 121, 83, 112, 101, 108, 108, 105, 110, 103].map Char.ofNat
theorem lit_eq : Tryd.prog.initOrder = String.ofList (w1 ++ ' ' :: (w2 ++ ' ' :: (w3 ++ ' ' :: rest))) := by kernel_rfl
theorem w1_eq : w1 = "harness".toList := by kernel_rfl
theorem w3_eq : w3 = "cut".toList := by kernel_rfl
theorem w2_card : Rows.fnCutBearerMatchesPrefixModelCard.stood.harness.2 = String.ofList w2 := by kernel_rfl
theorem plain1 : (w1.all fun c => !(c == ' ')) = true := by kernel_rfl
theorem plain2 : (w2.all fun c => !(c == ' ')) = true := by kernel_rfl
theorem plain3 : (w3.all fun c => !(c == ' ')) = true := by kernel_rfl
theorem words_eq : ∃ R, wordsSigns Tryd.prog.initOrder.toList = "harness".toList :: w2 :: "cut".toList :: R :=
  ⟨wordsSigns rest, by rw [lit_eq, String.toList_ofList, words_ahead _ _ plain1, words_ahead _ _ plain2, words_ahead _ _ plain3, w1_eq, w3_eq]⟩
theorem isSum : isSumSigns w2 = true := by kernel_rfl
theorem behind_eq : ∃ R, behindMainWord (wordsSigns Tryd.prog.initOrder.toList) = "cut".toList :: R := by
  obtain ⟨R, h⟩ := words_eq
  refine ⟨R, ?_⟩
  rw [h, behindMainWord, isSum]
  simp
theorem strip_cut (R : List (List Char)) : stripLifts liftWords ("cut".toList :: R) = ([], "cut".toList :: R) := by
  simp [stripLifts, liftWords]
theorem mainIs_eq : Tryd.prog.mainIs = some (true, w2) := by
  obtain ⟨R, h⟩ := words_eq
  unfold Program.mainIs
  rw [h]
  simp [isSum]
theorem mayEnter : Tryd.prog.mayEnter = true := by kernel_rfl
theorem headLifts : Tryd.prog.headLifts = [] := by
  obtain ⟨R, h⟩ := behind_eq
  unfold Program.headLifts
  rw [h, strip_cut]
  simp
theorem liftsFinal : Tryd.prog.liftsFinal = false := by
  obtain ⟨R, h⟩ := behind_eq
  unfold Program.liftsFinal
  rw [h, headLifts]
  simp
theorem make_cut : Tryd.prog.make = some .cut := by
  obtain ⟨R, h⟩ := behind_eq
  unfold Program.make
  rw [h]
  simp
theorem looks_no : false = Tryd.prog.looks [] := by kernel_rfl
/-- The card's word on the harness. -/
theorem mainIs_card : Tryd.prog.mainIs = some (true, Rows.fnCutBearerMatchesPrefixModelCard.stood.harness.2.toList) := by rw [mainIs_eq, w2_card, String.toList_ofList]

end Go.Proofs.Qxb6601828aDoor.Head
