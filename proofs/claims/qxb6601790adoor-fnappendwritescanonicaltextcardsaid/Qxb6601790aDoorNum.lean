/-
  Plain laws on decimal numerals as lists of bytes. No program in sight.
-/
import Derived.Lib.ItoaNum
namespace Go.Proofs.Qxb6601790aDoor.Num
open Go.Lib (decDigits)

/-- The byte is one of '0' .. '9'. -/
def isDig (c : UInt8) : Bool := decide (48 ≤ c.toNat) && decide (c.toNat ≤ 57)
def dv (c : UInt8) : Nat := c.toNat - 48
/-- The number that a list of digits writes. -/
def val (l : List UInt8) : Nat := l.foldl (fun a c => a * 10 + dv c) 0
/-- Every byte is a digit. -/
def allD (l : List UInt8) : Bool := l.all isDig

theorem snoc_rec {P : List UInt8 → Prop} (h0 : P []) (hs : ∀ l c, P l → P (l ++ [c])) (l : List UInt8) : P l := by
  rw [← List.reverse_reverse l]
  induction l.reverse with
  | nil => exact h0
  | cons c t ih => rw [List.reverse_cons]; exact hs _ _ ih

theorem isDig_iff (c : UInt8) : isDig c = true ↔ 48 ≤ c.toNat ∧ c.toNat ≤ 57 := by simp [isDig]
theorem dv_le {c : UInt8} (h : isDig c = true) : dv c ≤ 9 := by rw [isDig_iff] at h; unfold dv; omega
theorem val_nil : val [] = 0 := rfl
theorem val_snoc (l : List UInt8) (c : UInt8) : val (l ++ [c]) = val l * 10 + dv c := by simp [val]
theorem val_append (a b : List UInt8) : val (a ++ b) = val a * 10 ^ b.length + val b := by
  revert b
  refine snoc_rec (by simp [val]) (fun b c ih => ?_)
  rw [← List.append_assoc, val_snoc, ih, val_snoc, List.length_append]
  simp [Nat.pow_succ, Nat.add_mul, Nat.mul_assoc, Nat.add_assoc]
theorem val_one (c : UInt8) : val [c] = dv c := by simp [val]
theorem val_cons (c : UInt8) (l : List UInt8) : val (c :: l) = dv c * 10 ^ l.length + val l := by
  have := val_append [c] l
  simpa [val_one] using this

theorem allD_append (a b : List UInt8) : allD (a ++ b) = (allD a && allD b) := by simp [allD]
theorem allD_cons (c : UInt8) (l : List UInt8) : allD (c :: l) = (isDig c && allD l) := by simp [allD]
theorem allD_nil : allD [] = true := rfl
theorem allD_mem {l : List UInt8} (h : allD l = true) {c : UInt8} (hc : c ∈ l) : isDig c = true := List.all_eq_true.1 h c hc
theorem allD_of {l : List UInt8} (h : ∀ c ∈ l, isDig c = true) : allD l = true := List.all_eq_true.2 h
theorem allD_take {l : List UInt8} (h : allD l = true) (k : Nat) : allD (l.take k) = true := allD_of fun _ hc => allD_mem h (List.mem_of_mem_take hc)
theorem allD_drop {l : List UInt8} (h : allD l = true) (k : Nat) : allD (l.drop k) = true := allD_of fun _ hc => allD_mem h (List.mem_of_mem_drop hc)
theorem isDig_zero : isDig 48 = true := by decide
theorem isDig_nine : isDig 57 = true := by decide
theorem allD_rep (n : Nat) (c : UInt8) (h : isDig c = true) : allD (List.replicate n c) = true := allD_of fun x hx => by rw [(List.mem_replicate.1 hx).2]; exact h

theorem val_lt {l : List UInt8} (h : allD l = true) : val l < 10 ^ l.length := by
  revert h
  refine snoc_rec (P := fun l => allD l = true → val l < 10 ^ l.length) (by simp [val]) (fun l c ih h => ?_) l
  rw [allD_append, Bool.and_eq_true] at h
  have h1 := ih h.1
  have h2 := dv_le (c := c) (allD_mem h.2 (by simp))
  rw [val_snoc, List.length_append, List.length_singleton, Nat.pow_succ]
  omega

theorem val_zeros (n : Nat) : val (List.replicate n 48) = 0 := by
  induction n with
  | zero => rfl
  | succ n ih => rw [List.replicate_succ, val_cons, ih]; simp [dv]
theorem val_nines (n : Nat) : val (List.replicate n 57) + 1 = 10 ^ n := by
  induction n with
  | zero => rfl
  | succ n ih => rw [List.replicate_succ, val_cons, Nat.pow_succ, List.length_replicate]; simp [dv]; omega

/-- Leading zeros do not count. -/
theorem val_zeros_append (n : Nat) (l : List UInt8) : val (List.replicate n 48 ++ l) = val l := by rw [val_append, val_zeros]; simp

theorem pos_of_head {c : UInt8} {l : List UInt8} (hd : isDig c = true) (h : c ≠ 48) : 10 ^ l.length ≤ val (c :: l) := by
  rw [val_cons]
  have h1 : 1 ≤ dv c := by
    rw [isDig_iff] at hd
    have : c.toNat ≠ 48 := fun e => h (UInt8.toNat_inj.1 (by simpa using e))
    unfold dv; omega
  have := Nat.mul_le_mul_right (10 ^ l.length) h1
  omega

theorem toNat_ofNat {n : Nat} (h : n < 256) : (UInt8.ofNat n).toNat = n := by rw [UInt8.toNat_ofNat']; exact Nat.mod_eq_of_lt h
theorem byte_of_dv {c : UInt8} (h : isDig c = true) : UInt8.ofNat (48 + dv c) = c := by
  rw [isDig_iff] at h
  apply UInt8.toNat_inj.1
  simp [dv]; omega

/-- A numeral without a leading zero is the numeral of its number. -/
theorem decDigits_val {c : UInt8} {l : List UInt8} (h : allD (c :: l) = true) (hc : c ≠ 48) : decDigits (val (c :: l)) = c :: l := by
  revert h
  refine snoc_rec (P := fun l => allD (c :: l) = true → decDigits (val (c :: l)) = c :: l) (fun h => ?_) (fun l x ih h => ?_) l
  · have hd := allD_mem h (c := c) (by simp)
    rw [val_one, decDigits, dif_pos (by have := dv_le hd; omega), byte_of_dv hd]
  · have e : c :: (l ++ [x]) = (c :: l) ++ [x] := rfl
    rw [e, allD_append, Bool.and_eq_true] at h
    have hx := allD_mem h.2 (c := x) (by simp)
    have hp := pos_of_head (l := l) (allD_mem h.1 (c := c) (by simp)) hc
    have hp1 : 1 ≤ 10 ^ l.length := Nat.one_le_pow _ _ (by decide)
    have hx9 := dv_le hx
    rw [e, val_snoc, decDigits, dif_neg (by omega)]
    have e1 : (val (c :: l) * 10 + dv x) / 10 = val (c :: l) := by omega
    have e2 : (val (c :: l) * 10 + dv x) % 10 = dv x := by omega
    rw [e1, e2, ih h.1, byte_of_dv hx]

/-- The leading zeros struck: the numeral of the number, where that is not 0. -/
theorem strip_eq {l : List UInt8} (h : allD l = true) (hv : 0 < val l) : l.dropWhile (· == 48) = decDigits (val l) := by
  induction l with
  | nil => simp [val] at hv
  | cons c l ih =>
    by_cases hc : c = 48
    · subst hc
      rw [allD_cons, Bool.and_eq_true] at h
      have e : val (48 :: l) = val l := by rw [val_cons]; simp [dv]
      rw [e] at hv ⊢
      rw [← ih h.2 hv]
      simp [List.dropWhile]
    · have hb : (c == 48) = false := by simpa using hc
      rw [decDigits_val h hc, List.dropWhile, hb]

/-- A numeral: its digits, its number, its head. -/
theorem decDigits_allD (u : Nat) : allD (decDigits u) = true := by
  induction u using Nat.strongRecOn with
  | _ u ih =>
    by_cases h : u < 10
    · rw [decDigits, dif_pos h]
      apply allD_of; intro c hc
      rw [List.mem_singleton] at hc; subst hc
      rw [isDig_iff]
      have : (UInt8.ofNat (48 + u)).toNat = 48 + u := toNat_ofNat (by omega)
      omega
    · rw [decDigits, dif_neg h, allD_append, ih _ (by omega)]
      simp only [Bool.true_and]
      apply allD_of; intro c hc
      rw [List.mem_singleton] at hc; subst hc
      rw [isDig_iff]
      have : (UInt8.ofNat (48 + u % 10)).toNat = 48 + u % 10 := toNat_ofNat (by omega)
      omega
theorem val_decDigits (u : Nat) : val (decDigits u) = u := by
  induction u using Nat.strongRecOn with
  | _ u ih =>
    by_cases h : u < 10
    · rw [decDigits, dif_pos h, val_one]; unfold dv
      have : (UInt8.ofNat (48 + u)).toNat = 48 + u := toNat_ofNat (by omega)
      omega
    · rw [decDigits, dif_neg h, val_snoc, ih _ (by omega)]; unfold dv
      have : (UInt8.ofNat (48 + u % 10)).toNat = 48 + u % 10 := toNat_ofNat (by omega)
      omega
theorem decDigits_ne_nil (u : Nat) : decDigits u ≠ [] := by
  by_cases h : u < 10
  · rw [decDigits, dif_pos h]; simp
  · rw [decDigits, dif_neg h]; simp
/-- The numeral of a number that is not 0 opens with no zero. -/
theorem decDigits_head (u : Nat) (h : 0 < u) : ∃ c l, decDigits u = c :: l ∧ c ≠ 48 := by
  induction u using Nat.strongRecOn with
  | _ u ih =>
    by_cases h10 : u < 10
    · refine ⟨UInt8.ofNat (48 + u), [], by rw [decDigits, dif_pos h10], fun e => ?_⟩
      have := congrArg UInt8.toNat e
      have e2 : (UInt8.ofNat (48 + u)).toNat = 48 + u := toNat_ofNat (by omega)
      rw [e2] at this
      simp at this; omega
    · obtain ⟨c, l, e, hc⟩ := ih (u / 10) (by omega) (by omega)
      exact ⟨c, l ++ [UInt8.ofNat (48 + u % 10)], by rw [decDigits, dif_neg h10, e]; rfl, hc⟩
theorem decDigits_len_le (u k : Nat) (h : u < 10 ^ k) (hk : 1 ≤ k) : (decDigits u).length ≤ k := by
  by_cases h0 : u = 0
  · subst h0; rw [decDigits, dif_pos (by decide)]; simpa using hk
  · obtain ⟨c, l, e, hc⟩ := decDigits_head u (by omega)
    have hd := decDigits_allD u
    have hv := val_decDigits u
    rw [e] at hd hv ⊢
    have := pos_of_head (l := l) (allD_mem hd (c := c) (by simp)) hc
    rw [hv] at this
    have hlt : 10 ^ l.length < 10 ^ k := by omega
    have := (Nat.pow_lt_pow_iff_right (by decide : 1 < 10)).1 hlt
    simp; omega

end Go.Proofs.Qxb6601790aDoor.Num
