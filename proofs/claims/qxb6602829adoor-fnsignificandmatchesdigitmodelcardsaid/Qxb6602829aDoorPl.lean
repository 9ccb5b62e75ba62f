/-
  Digits, numbers, and what significand computes, on lists of bytes. No program in sight.
-/
import Derived.Lib.TrimByte
namespace Go.Proofs.Qxb6602829aDoor.Pl

/-- The byte is one of '0' .. '9'. -/
def isDig (c : UInt8) : Bool := decide (48 ≤ c.toNat) && decide (c.toNat ≤ 57)
def dv (c : UInt8) : Nat := c.toNat - 48
/-- The number that a list of digits writes. -/
def val (l : List UInt8) : Nat := l.foldl (fun a c => a * 10 + dv c) 0
/-- Every byte is a digit. -/
def allD (l : List UInt8) : Bool := l.all isDig

theorem snoc_rec {P : List UInt8 → Prop} (h0 : P []) (hs : ∀ l c, P l → P (l ++ [c])) (l : List UInt8) : P l := by
  rw [← List.reverse_reverse l]
  induction l.reverse with
  | nil => exact h0
  | cons c t ih => rw [List.reverse_cons]; exact hs _ _ ih

theorem isDig_iff (c : UInt8) : isDig c = true ↔ 48 ≤ c.toNat ∧ c.toNat ≤ 57 := by simp [isDig]
theorem dv_le {c : UInt8} (h : isDig c = true) : dv c ≤ 9 := by rw [isDig_iff] at h; unfold dv; omega
theorem val_nil : val [] = 0 := rfl
theorem val_snoc (l : List UInt8) (c : UInt8) : val (l ++ [c]) = val l * 10 + dv c := by simp [val]
theorem val_append (a b : List UInt8) : val (a ++ b) = val a * 10 ^ b.length + val b := by
  revert b
  refine snoc_rec (by simp [val]) (fun b c ih => ?_)
  rw [← List.append_assoc, val_snoc, ih, val_snoc, List.length_append]
  simp [Nat.pow_succ, Nat.add_mul, Nat.mul_assoc, Nat.add_assoc]
theorem val_one (c : UInt8) : val [c] = dv c := by simp [val]
theorem val_cons (c : UInt8) (l : List UInt8) : val (c :: l) = dv c * 10 ^ l.length + val l := by
  have := val_append [c] l
  simpa [val_one] using this

theorem allD_append (a b : List UInt8) : allD (a ++ b) = (allD a && allD b) := by simp [allD]
theorem allD_cons (c : UInt8) (l : List UInt8) : allD (c :: l) = (isDig c && allD l) := by simp [allD]
theorem allD_nil : allD [] = true := rfl
theorem allD_mem {l : List UInt8} (h : allD l = true) {c : UInt8} (hc : c ∈ l) : isDig c = true := List.all_eq_true.1 h c hc
theorem allD_of {l : List UInt8} (h : ∀ c ∈ l, isDig c = true) : allD l = true := List.all_eq_true.2 h
theorem allD_take {l : List UInt8} (h : allD l = true) (k : Nat) : allD (l.take k) = true := allD_of fun _ hc => allD_mem h (List.mem_of_mem_take hc)
theorem allD_drop {l : List UInt8} (h : allD l = true) (k : Nat) : allD (l.drop k) = true := allD_of fun _ hc => allD_mem h (List.mem_of_mem_drop hc)
theorem isDig_zero : isDig 48 = true := by decide
theorem isDig_nine : isDig 57 = true := by decide
theorem allD_rep (n : Nat) (c : UInt8) (h : isDig c = true) : allD (List.replicate n c) = true := allD_of fun x hx => by rw [(List.mem_replicate.1 hx).2]; exact h

theorem val_lt {l : List UInt8} (h : allD l = true) : val l < 10 ^ l.length := by
  revert h
  refine snoc_rec (P := fun l => allD l = true → val l < 10 ^ l.length) (by simp [val]) (fun l c ih h => ?_) l
  rw [allD_append, Bool.and_eq_true] at h
  have h1 := ih h.1
  have h2 := dv_le (c := c) (allD_mem h.2 (by simp))
  rw [val_snoc, List.length_append, List.length_singleton, Nat.pow_succ]
  omega

theorem val_zeros (n : Nat) : val (List.replicate n 48) = 0 := by
  induction n with
  | zero => rfl
  | succ n ih => rw [List.replicate_succ, val_cons, ih]; simp [dv]
theorem val_nines (n : Nat) : val (List.replicate n 57) + 1 = 10 ^ n := by
  induction n with
  | zero => rfl
  | succ n ih => rw [List.replicate_succ, val_cons, Nat.pow_succ, List.length_replicate]; simp [dv]; omega

/-- Leading zeros do not count. -/
theorem val_zeros_append (n : Nat) (l : List UInt8) : val (List.replicate n 48 ++ l) = val l := by rw [val_append, val_zeros]; simp

theorem pos_of_head {c : UInt8} {l : List UInt8} (hd : isDig c = true) (h : c ≠ 48) : 10 ^ l.length ≤ val (c :: l) := by
  rw [val_cons]
  have h1 : 1 ≤ dv c := by
    rw [isDig_iff] at hd
    have : c.toNat ≠ 48 := fun e => h (UInt8.toNat_inj.1 (by simpa using e))
    unfold dv; omega
  have := Nat.mul_le_mul_right (10 ^ l.length) h1
  omega

theorem toNat_ofNat {n : Nat} (h : n < 256) : (UInt8.ofNat n).toNat = n := by rw [UInt8.toNat_ofNat']; exact Nat.mod_eq_of_lt h

/-! ### The exponent -/
theorem val_mono {l : List UInt8} (k : Nat) : val (l.take k) ≤ val l := by
  conv => rhs; rw [← List.take_append_drop k l, val_append]
  have : 1 ≤ 10 ^ (l.drop k).length := Nat.one_le_pow _ _ (by decide)
  have := Nat.mul_le_mul_left (val (l.take k)) this
  omega

/-! ### The significand -/
def zs (n : Nat) : List UInt8 := List.replicate n 48
/-- What the law asks of head, tail and the shift of the scale. -/
def Sg (I F H T : List UInt8) (adj : Int) : Prop :=
  (H = [] ∧ T = [] ∧ adj = 0 ∧ I ++ F = zs (I ++ F).length) ∨
  ∃ p r, I ++ F = zs p ++ (H ++ T) ++ zs r ∧ (H ++ T).head? ≠ some 48 ∧ (H ++ T).getLast? ≠ some 48 ∧ 0 < (H ++ T).length ∧ adj = (r : Int) - F.length ∧
    ((T = [] ∧ (I.length ≤ p ∨ p + H.length ≤ I.length)) ∨ (T ≠ [] ∧ H ≠ [] ∧ I.length = p + H.length))

theorem left_split (l : List UInt8) : ∃ p, l = zs p ++ Lib.trimLeftB l 48 ∧ (Lib.trimLeftB l 48).head? ≠ some 48 := by
  induction l with
  | nil => exact ⟨0, rfl, by simp [Lib.trimLeftB]⟩
  | cons c l ih =>
    by_cases h : c = 48
    · subst h
      obtain ⟨p, h1, h2⟩ := ih
      have e : Lib.trimLeftB (48 :: l) 48 = Lib.trimLeftB l 48 := by simp [Lib.trimLeftB]
      refine ⟨p + 1, ?_, by rw [e]; exact h2⟩
      rw [e]
      conv => lhs; rw [h1]
      simp [zs, List.replicate_succ]
    · have hb : (c == 48) = false := by simpa using h
      have e : Lib.trimLeftB (c :: l) 48 = c :: l := by simp [Lib.trimLeftB, hb]
      exact ⟨0, by rw [e]; rfl, by rw [e]; simpa using h⟩
theorem right_split (l : List UInt8) : ∃ r, l = Lib.trimRightB l 48 ++ zs r ∧ (Lib.trimRightB l 48).getLast? ≠ some 48 := by
  obtain ⟨r, h1, h2⟩ := left_split l.reverse
  have e : Lib.trimRightB l 48 = (Lib.trimLeftB l.reverse 48).reverse := rfl
  refine ⟨r, ?_, ?_⟩
  · rw [e, ← List.reverse_reverse l]
    conv => lhs; rw [h1]
    simp [zs]
  · rw [e, List.getLast?_reverse]; exact h2

theorem zs_append (a b : Nat) : zs a ++ zs b = zs (a + b) := by unfold zs; rw [List.replicate_append_replicate]
theorem zs_length (a : Nat) : (zs a).length = a := by simp [zs]
theorem head_zs {n : Nat} {l : List UInt8} (h : (zs n ++ l).head? ≠ some 48) : n = 0 := by
  cases n with
  | zero => rfl
  | succ n => simp [zs, List.replicate_succ] at h

/-- No fraction digit is left. -/
theorem sg_int (I F : List UInt8) (hT : Lib.trimRightB F 48 = []) :
    Sg I F (Lib.trimRightB (Lib.trimLeftB I 48) 48) [] ((Lib.trimLeftB I 48).length - (Lib.trimRightB (Lib.trimLeftB I 48) 48).length : Int) := by
  obtain ⟨r, hF, _⟩ := right_split F
  rw [hT, List.nil_append] at hF
  obtain ⟨p, hI, hI2⟩ := left_split I
  generalize Lib.trimLeftB I 48 = W at *
  obtain ⟨t, hW, hW2⟩ := right_split W
  generalize Lib.trimRightB W 48 = H at *
  have hFl : F.length = r := by rw [hF, zs_length]
  cases H with
  | nil =>
    rw [List.nil_append] at hW
    have ht : t = 0 := by
      apply head_zs (l := [])
      rw [List.append_nil, ← hW]; exact hI2
    subst ht
    left
    have e : I ++ F = zs (p + r) := by rw [hI, hW, hF, zs_append, zs_append]; rfl
    exact ⟨rfl, rfl, by rw [hW]; rfl, by rw [e, zs_length]⟩
  | cons c H =>
    right
    refine ⟨p, t + r, ?_, ?_, by rw [List.append_nil]; exact hW2, by simp, ?_, .inl ⟨rfl, .inr ?_⟩⟩
    · rw [hI, hW, hF, List.append_nil, ← zs_append]; simp
    · rw [hW] at hI2; simpa using hI2
    · rw [hW, List.length_append, zs_length, hFl]; omega
    · rw [hI, hW]; simp [zs_length]

/-- Only fraction digits. -/
theorem sg_frac (I F : List UInt8) (hT : Lib.trimRightB F 48 ≠ []) (hW : Lib.trimLeftB I 48 = []) :
    Sg I F (Lib.trimLeftB (Lib.trimRightB F 48) 48) [] (-((Lib.trimRightB F 48).length : Int)) := by
  obtain ⟨r, hF, hF2⟩ := right_split F
  generalize Lib.trimRightB F 48 = T at *
  obtain ⟨p, hI, _⟩ := left_split I
  rw [hW, List.append_nil] at hI
  obtain ⟨q, hT1, hT2⟩ := left_split T
  generalize Lib.trimLeftB T 48 = H at *
  have hIl : I.length = p := by rw [hI, zs_length]
  have hFl : F.length = T.length + r := by rw [hF, List.length_append, zs_length]
  have hH : H ≠ [] := by
    intro e
    subst e
    rw [List.append_nil] at hT1
    cases q with
    | zero => exact hT (by rw [hT1]; rfl)
    | succ q => rw [hT1] at hF2; apply hF2; unfold zs; rw [List.replicate_succ']; simp
  right
  refine ⟨p + q, r, ?_, by rw [List.append_nil]; exact hT2, ?_, ?_, by omega, .inl ⟨rfl, .inl (by omega)⟩⟩
  · rw [List.append_nil, ← zs_append, hI, hF, hT1, hIl.symm.trans (by rw [hI])]
    simp [List.append_assoc, zs_length]
  · rw [List.append_nil]
    rw [hT1, List.getLast?_append] at hF2
    cases e : H.getLast? with
    | none => simp
    | some c => rw [e] at hF2; simpa using hF2
  · rw [List.append_nil]; exact List.length_pos_iff.2 hH

/-- Digits on both sides of the point. -/
theorem sg_both (I F : List UInt8) (hT : Lib.trimRightB F 48 ≠ []) (hW : Lib.trimLeftB I 48 ≠ []) :
    Sg I F (Lib.trimLeftB I 48) (Lib.trimRightB F 48) (-((Lib.trimRightB F 48).length : Int)) := by
  obtain ⟨r, hF, hF2⟩ := right_split F
  obtain ⟨p, hI, hI2⟩ := left_split I
  generalize Lib.trimRightB F 48 = T at *
  generalize Lib.trimLeftB I 48 = W at *
  have hFl : F.length = T.length + r := by rw [hF, List.length_append, zs_length]
  have hIl : I.length = p + W.length := by rw [hI, List.length_append, zs_length]
  right
  refine ⟨p, r, ?_, ?_, ?_, ?_, by omega, .inr ⟨hT, hW, by omega⟩⟩
  · rw [hI, hF]; simp
  · cases W with
    | nil => exact absurd rfl hW
    | cons c W => simpa using hI2
  · rw [List.getLast?_append]
    cases e : T.getLast? with
    | none => exact absurd (List.getLast?_eq_none_iff.1 e) hT
    | some c => rw [e] at hF2; simpa using hF2
  · have := List.length_pos_iff.2 hW
    rw [List.length_append]; omega

end Go.Proofs.Qxb6602829aDoor.Pl
