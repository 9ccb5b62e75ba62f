/-
  The plain form by place value: no program in sight.
-/
import Derived.Test.Qxb6601790aDoorAd
namespace Go.Proofs.Qxb6601790aDoor.Num
open Go.Lib (decDigits)

/-- The places from the highest down; behind how many of them the point stands; what is written when t of them are. -/
def plc (d : List UInt8) (p : Int) : List UInt8 := if p ≤ 0 then List.replicate (1 - p).toNat 48 ++ d else d ++ List.replicate (p - d.length).toNat 48
def plq (p : Int) : Nat := if p ≤ 0 then 1 else p.toNat
def part (E : List UInt8) (q t : Nat) : List UInt8 := if t ≤ q then E.take t else E.take q ++ 46 :: (E.take t).drop q
theorem plc_len (d : List UInt8) (p : Int) : ((plc d p).length : Int) = if p ≤ 0 then (d.length : Int) + 1 - p else if (d.length : Int) ≤ p then p else d.length := by
  unfold plc
  split
  · rw [List.length_append, List.length_replicate]; omega
  · split
    · rw [List.length_append, List.length_replicate]; omega
    · rw [List.length_append, List.length_replicate]; omega
theorem part_done {d : List UInt8} (hd : d ≠ []) (p : Int) : body d false p = part (plc d p) (plq p) (plc d p).length := by
  have hl := plc_len d p
  have hd0 : 0 < d.length := List.length_pos_iff.2 hd
  unfold part
  rw [List.take_length]
  by_cases h0 : p ≤ 0
  · have hq : plq p = 1 := by unfold plq; rw [if_pos h0]
    rw [if_pos h0] at hl
    rw [hq, if_neg (by omega)]
    have e : plc d p = 48 :: (List.replicate (-p).toNat 48 ++ d) := by
      unfold plc
      rw [if_pos h0, show (1 - p).toNat = (-p).toNat + 1 by omega, List.replicate_succ]
      rfl
    unfold body
    rw [if_neg (by decide), if_pos h0, e]
    rfl
  · have hq : plq p = p.toNat := by unfold plq; rw [if_neg h0]
    rw [if_neg h0] at hl
    by_cases h1 : (d.length : Int) ≤ p
    · rw [if_pos h1] at hl
      rw [hq, if_pos (by omega)]
      unfold body plc
      rw [if_neg (by decide), if_neg h0, if_pos h1, if_neg h0]
    · rw [if_neg h1] at hl
      have e : plc d p = d := by
        unfold plc
        rw [if_neg h0, show (p - d.length).toNat = 0 by omega]
        simp
      rw [hq, if_neg (by omega), e]
      unfold body
      rw [if_neg (by decide), if_neg h0, if_neg h1]
theorem part_zero (E : List UInt8) (q : Nat) : part E q 0 = [] := by unfold part; rw [if_pos (Nat.zero_le _), List.take_zero]
theorem part_step (E : List UInt8) (q t : Nat) (ht : t < E.length) : part E q (t + 1) = part E q t ++ (if t = q then [46] else []) ++ [E[t]] := by
  unfold part
  by_cases h1 : t + 1 ≤ q
  · rw [if_pos h1, if_pos (by omega), if_neg (by omega), List.append_nil, List.take_succ_eq_append_getElem ht]
  · by_cases h2 : t = q
    · subst h2
      rw [if_neg h1, if_pos (Nat.le_refl _), if_pos rfl, List.take_succ_eq_append_getElem ht, List.drop_append_of_le_length (by rw [List.length_take]; omega), List.drop_eq_nil_of_le (by rw [List.length_take]; omega)]
      simp
    · rw [if_neg h1, if_neg (by omega), if_neg h2, List.append_nil, List.take_succ_eq_append_getElem ht, List.drop_append_of_le_length (by rw [List.length_take]; omega)]
      simp
theorem part_len (E : List UInt8) (q t : Nat) : (part E q t).length ≤ t + 1 := by
  unfold part
  split
  · rw [List.length_take]; omega
  · rw [List.length_append, List.length_cons, List.length_drop, List.length_take, List.length_take]; omega
/-- The digit at a place: one of d's, or a zero. -/
theorem plc_at_dig {d : List UInt8} {p : Int} {t m : Nat} (ht : t < (plc d p).length) (hm : (m : Int) = p - plq p + t) (hmd : m < d.length) : (plc d p)[t] = d[m] := by
  unfold plq at hm
  unfold plc at ht ⊢
  by_cases h0 : p ≤ 0
  · simp only [if_pos h0] at ht hm ⊢
    rw [List.getElem_append_right (by rw [List.length_replicate]; omega)]
    congr 1
    rw [List.length_replicate]
    omega
  · simp only [if_neg h0] at ht hm ⊢
    rw [List.getElem_append_left (by omega)]
    congr 1
    omega
theorem plc_at_zero {d : List UInt8} {p : Int} {t : Nat} (ht : t < (plc d p).length) (hm : p - plq p + t < 0 ∨ (d.length : Int) ≤ p - plq p + t) : (plc d p)[t] = 48 := by
  have hl := plc_len d p
  unfold plq at hm
  unfold plc at ht hl ⊢
  by_cases h0 : p ≤ 0
  · simp only [if_pos h0] at ht hm hl ⊢
    rw [List.getElem_append_left (by rw [List.length_replicate]; omega), List.getElem_replicate]
  · simp only [if_neg h0] at ht hm ⊢
    rw [List.getElem_append_right (by omega), List.getElem_replicate]

end Go.Proofs.Qxb6601790aDoor.Num
