/-
  The walk of readStrDecimal.
-/
import Derived.Test.Qxb6601790aDoorRg
import Derived.Deep.CutRange
namespace Go.Proofs.Qxb6601790aDoor
open Go.RowKit Num
open Go.Lib (decDigits)

/-! ### Places and lists -/
theorem drop_sgAt (s : ByteArray) (i : Nat) : s.data.toList.drop (sgAt s i) = dropSign (s.data.toList.drop i) := by
  unfold sgAt
  by_cases h : i < s.size
  · rw [dif_pos h, drop_at s i h]
    cases hs : isSg s[i] with
    | true => simp [dropSign, hs]
    | false =>
      rw [if_neg (by decide), drop_at s i h]
      simp [dropSign, hs]
  · rw [dif_neg h, drop_all s i h]; rfl
theorem ext_list (s : ByteArray) (a b : Nat) : (s.extract a b).data.toList = (s.data.toList.drop a).take (b - a) := by
  rw [Lib.extract_data]
theorem ext_dg (s : ByteArray) (a : Nat) : (s.extract a (skipD s.data.toList a)).data.toList = dg (s.data.toList.drop a) := by
  rw [ext_list s a _]
  unfold skipD
  rw [show a + (dg (s.data.toList.drop a)).length - a = (dg (s.data.toList.drop a)).length by omega]
  exact (List.prefix_iff_eq_take.1 (List.takeWhile_prefix (l := s.data.toList.drop a) isDig)).symm
theorem drop_skipD (l : List UInt8) (a : Nat) : l.drop (skipD l a) = nd (l.drop a) := by
  unfold skipD
  rw [← List.drop_drop]
  generalize l.drop a = r
  unfold dg nd
  induction r with
  | nil => rfl
  | cons c r ih => cases h : isDig c <;> simp [List.takeWhile, List.dropWhile, h, ih]
/-- Is there a point at i? -/
def dotB (s : ByteArray) (i : Nat) : Bool := if h : i < s.size then s[i] == 46 else false
def exB (s : ByteArray) (i : Nat) : Bool := if h : i < s.size then isEx s[i] else false
def sgB (s : ByteArray) (i : Nat) : Bool := if h : i < s.size then isSg s[i] else false
def fEnd (s : ByteArray) (i : Nat) : Nat := if dotB s i then skipD s.data.toList (i + 1) else i
def fStr (s : ByteArray) (i : Nat) : ByteArray := if dotB s i then s.extract (i + 1) (skipD s.data.toList (i + 1)) else ⟨#[]⟩
theorem frac_at (s : ByteArray) (i : Nat) : fracOf (s.data.toList.drop i) = ((fStr s i).data.toList, s.data.toList.drop (fEnd s i)) := by
  unfold fStr fEnd dotB
  by_cases h : i < s.size
  · simp only [dif_pos h]
    cases hd : s[i] == 46 with
    | true =>
      rw [if_pos rfl, if_pos rfl, ext_dg s (i + 1), drop_skipD, drop_at s i h]
      simp [fracOf, hd]
    | false =>
      rw [if_neg (by decide), if_neg (by decide), drop_at s i h]
      simp [fracOf, hd]
  · simp only [dif_neg h]
    rw [if_neg (by decide), if_neg (by decide), drop_all s i h]; rfl
theorem fEnd_le (s : ByteArray) (i : Nat) (hi : i ≤ s.size) : fEnd s i ≤ s.size := by
  unfold fEnd
  cases h : dotB s i with
  | true =>
    have : i < s.size := by
      unfold dotB at h
      by_cases h' : i < s.size
      · exact h'
      · rw [dif_neg h'] at h; exact absurd h (by decide)
    exact skipD_le s (i + 1) (by omega)
  | false => exact hi
theorem isNeg_at (s : ByteArray) (h : 0 < s.size) : isNeg s.data.toList = (s[0] == 45) := by
  have := drop_at s 0 h
  rw [List.drop_zero] at this
  rw [this]; rfl

/-- The parts, by places. -/
theorem parts_at (s : ByteArray) : partsOf s.data.toList = if (s.extract (sgAt s 0) (skipD s.data.toList (sgAt s 0))).data.toList.isEmpty && (fStr s (skipD s.data.toList (sgAt s 0))).data.toList.isEmpty then none else (expOf (s.data.toList.drop (fEnd s (skipD s.data.toList (sgAt s 0))))).map fun ex => ⟨isNeg s.data.toList, (s.extract (sgAt s 0) (skipD s.data.toList (sgAt s 0))).data.toList, (fStr s (skipD s.data.toList (sgAt s 0))).data.toList, ex⟩ := by
  have e1 := drop_sgAt s 0
  rw [List.drop_zero] at e1
  have e2 := ext_dg s (sgAt s 0)
  have e3 := frac_at s (skipD s.data.toList (sgAt s 0))
  rw [drop_skipD, e1] at e3
  rw [e1] at e2
  unfold partsOf
  rw [e2, e3]
/-- The exponent, by places. -/
theorem exp_no (s : ByteArray) (i : Nat) (h : exB s i = false) (hi : i ≤ s.size) : expOf (s.data.toList.drop i) = if i = s.size then some [] else none := by
  by_cases h' : i < s.size
  · unfold exB at h
    rw [dif_pos h'] at h
    rw [if_neg (by omega), drop_at s i h']
    simp [expOf, h]
  · rw [if_pos (by omega), drop_all s i h']; rfl
theorem exp_yes (s : ByteArray) (i : Nat) (h : i < s.size) (he : exB s i = true) : expOf (s.data.toList.drop i) = if skipD s.data.toList (sgAt s (i + 1)) = sgAt s (i + 1) then none else if skipD s.data.toList (sgAt s (i + 1)) = s.size then some (s.extract (i + 1) (skipD s.data.toList (sgAt s (i + 1)))).data.toList else none := by
  unfold exB at he
  rw [dif_pos h] at he
  have hj := sgAt_le s (i + 1) (by omega)
  have hx := ext_list s (i + 1) (skipD s.data.toList (sgAt s (i + 1)))
  rw [drop_at s i h]
  have e1 := drop_sgAt s (i + 1)
  have hxx : ∀ (c : UInt8) (r : List UInt8), expOf (c :: r) = if isEx c && !(dropSign r).isEmpty && allD (dropSign r) then some r else none := fun _ _ => rfl
  rw [hxx, he, ← e1, Bool.true_and, hx]
  generalize sgAt s (i + 1) = j at *
  have e2 := dg_nd (s.data.toList.drop j)
  have e3 := dg_allD (s.data.toList.drop j)
  have e4 := nd_head (s.data.toList.drop j)
  have e5 : skipD s.data.toList j = j + (dg (s.data.toList.drop j)).length := rfl
  have e6 : (s.data.toList.drop j).length = s.size - j := by rw [List.length_drop, len_data]
  have e7 := congrArg List.length e2
  rw [List.length_append, e6] at e7
  by_cases h1 : skipD s.data.toList j = j
  · rw [if_pos h1]
    have h2 : dg (s.data.toList.drop j) = [] := List.length_eq_zero_iff.1 (by omega)
    rw [h2, List.nil_append] at e2
    cases hc : s.data.toList.drop j with
    | nil => rfl
    | cons c t =>
      have := e4 c t (by rw [e2, hc])
      rw [allD_cons, this]
      rfl
  · rw [if_neg h1]
    by_cases h3 : skipD s.data.toList j = s.size
    · rw [if_pos h3, h3]
      have h4 : nd (s.data.toList.drop j) = [] := List.length_eq_zero_iff.1 (by omega)
      rw [h4, List.append_nil] at e2
      rw [e2] at e3
      have h5 : s.data.toList.drop j ≠ [] := by
        intro e
        rw [e] at e5
        apply h1
        rw [e5]
        rfl
      rw [e3, ie_false h5, if_pos (by decide), List.take_of_length_le (by rw [List.length_drop, len_data]; exact Nat.le_refl _)]
    · rw [if_neg h3]
      have h4 : nd (s.data.toList.drop j) ≠ [] := by
        intro e
        rw [e] at e7
        simp at e7
        omega
      have h5 : allD (s.data.toList.drop j) = false := by
        cases hn : nd (s.data.toList.drop j) with
        | nil => exact absurd hn h4
        | cons c t =>
          have h6 := e4 c t hn
          rw [← e2, hn, allD_append, allD_cons, h6]
          simp
      rw [h5, Bool.and_false]
      rfl

end Go.Proofs.Qxb6601790aDoor
