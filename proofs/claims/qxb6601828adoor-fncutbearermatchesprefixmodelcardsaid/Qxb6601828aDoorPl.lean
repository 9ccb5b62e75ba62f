/-
  What CutBearer computes, as a function on lists of bytes. No program in sight.
-/
import Derived.Lib.Fold
import Derived.Lib.TrimByte
import Derived.Lib.Bytealg
namespace Go.Proofs.Qxb6601828aDoor.Pl

/-- "Bearer". -/
def bl : List UInt8 := [66, 101, 97, 114, 101, 114]
/-- The value opens with the word, in any letter case, and a blank. -/
def okB (l : List UInt8) : Bool := decide (7 ≤ l.length) && (l.getD 6 0 == 32) && Lib.equalFold (l.take 6) bl
/-- What comes back. -/
def res (l : List UInt8) : List UInt8 := if okB l = true then Lib.trimLeftB (l.drop 7) 32 else l

theorem fold_iff : ∀ (a b : List UInt8), Lib.equalFold a b = true ↔ a.length = b.length ∧ ∀ j, j < a.length → Lib.foldEq (a.getD j 0) (b.getD j 0) = true
  | [], [] => by simp [Lib.equalFold]
  | [], y :: b => by simp [Lib.equalFold]
  | x :: a, [] => by simp [Lib.equalFold]
  | x :: a, y :: b => by
    rw [Lib.equalFold, Bool.and_eq_true, fold_iff a b]
    constructor
    · rintro ⟨h1, h2, h3⟩
      refine ⟨by simp [h2], fun j hj => ?_⟩
      cases j with
      | zero => simpa using h1
      | succ j => simpa using h3 j (by simpa using hj)
    · rintro ⟨h1, h2⟩
      refine ⟨by simpa using h2 0 (by simp), by simpa using h1, fun j hj => ?_⟩
      simpa using h2 (j + 1) (by simpa using hj)

theorem ib_none {c : UInt8} : ∀ {l : List UInt8}, Lib.indexByte l c = -1 → ∀ j, j < l.length → l.getD j 0 ≠ c
  | [], _, j, hj => by simp at hj
  | b :: l, h, j, hj => by
    rw [Lib.indexByte] at h
    have hg := Lib.indexByte_ge l c
    split at h
    · omega
    · rename_i hb
      split at h
      · rename_i h2
        cases j with
        | zero => simpa using hb
        | succ j =>
          have := ib_none (l := l) (by simpa using h2) j (by simpa using hj)
          simpa using this
      · omega
theorem ib_some {c : UInt8} : ∀ {l : List UInt8} {k : Nat}, Lib.indexByte l c = k → k < l.length ∧ l.getD k 0 = c ∧ ∀ j, j < k → l.getD j 0 ≠ c
  | [], k, h => by rw [Lib.indexByte] at h; omega
  | b :: l, k, h => by
    rw [Lib.indexByte] at h
    have hg := Lib.indexByte_ge l c
    split at h
    · rename_i hb
      obtain rfl : k = 0 := by omega
      exact ⟨by simp, by simpa using hb, fun j hj => absurd hj (Nat.not_lt_zero _)⟩
    · rename_i hb
      split at h
      · omega
      · rename_i h2
        have h2' : Lib.indexByte l c ≠ -1 := by simpa using h2
        obtain ⟨m, rfl⟩ : ∃ m, k = m + 1 := ⟨k - 1, by omega⟩
        obtain ⟨i1, i2, i3⟩ := ib_some (c := c) (l := l) (k := m) (by omega)
        refine ⟨by simpa using i1, by simpa using i2, fun j hj => ?_⟩
        cases j with
        | zero => simpa using hb
        | succ j => simpa using i3 j (by omega)

theorem getD_take (l : List UInt8) (k j : Nat) (h : j < k) : (l.take k).getD j 0 = l.getD j 0 := by
  simp [List.getD, h]
theorem blank_no : ∀ j, j < 6 → Lib.foldEq 32 (bl.getD j 0) = false := by decide

theorem ok_none {l : List UInt8} (h : Lib.indexByte l 32 = -1) : okB l = false := by
  cases e : okB l with
  | false => rfl
  | true =>
    unfold okB at e
    simp only [Bool.and_eq_true, decide_eq_true_eq, beq_iff_eq] at e
    exact absurd e.1.2 (ib_none h 6 (by omega))
theorem ok_some {l : List UInt8} {k : Nat} (h : Lib.indexByte l 32 = k) : Lib.equalFold (l.take k) bl = okB l ∧ (okB l = true → k = 6) := by
  obtain ⟨h1, h2, h3⟩ := ib_some h
  have hlen : ∀ n, n ≤ l.length → (l.take n).length = n := fun n hn => by rw [List.length_take]; omega
  cases e : Lib.equalFold (l.take k) bl with
  | true =>
    have hk : k = 6 := by
      have := ((fold_iff _ _).1 e).1
      rw [hlen k (by omega)] at this
      simpa [bl] using this
    subst hk
    have hok : okB l = true := by
      unfold okB
      rw [e, h2]
      simp
      omega
    exact ⟨hok.symm, fun _ => rfl⟩
  | false =>
    have hok : okB l = false := by
      cases e2 : okB l with
      | false => rfl
      | true =>
        unfold okB at e2
        simp only [Bool.and_eq_true, decide_eq_true_eq, beq_iff_eq] at e2
        rcases Nat.lt_trichotomy k 6 with hk | hk | hk
        · have := ((fold_iff _ _).1 e2.2).2 k (by rw [hlen 6 (by omega)]; exact hk)
          rw [getD_take l 6 k hk, h2, blank_no k hk] at this
          cases this
        · subst hk
          rw [e2.2] at e
          cases e
        · exact absurd e2.1.2 (h3 6 hk)
    exact ⟨hok.symm, fun h' => by rw [hok] at h'; cases h'⟩

theorem okB_no {l : List UInt8} {k : Nat} (hk : k < 6) (hl : 7 ≤ l.length) (h : Lib.foldEq (l.getD k 0) (bl.getD k 0) = false) : okB l = false := by
  cases e : okB l with
  | false => rfl
  | true =>
    unfold okB at e
    simp only [Bool.and_eq_true] at e
    have := ((fold_iff _ _).1 e.2).2 k (by rw [List.length_take]; omega)
    rw [getD_take l 6 k hk, h] at this
    cases this
theorem okB_yes {l : List UInt8} (hl : 7 ≤ l.length) (h6 : l.getD 6 0 = 32) (h : ∀ k, k < 6 → Lib.foldEq (l.getD k 0) (bl.getD k 0) = true) : okB l = true := by
  unfold okB
  rw [h6]
  simp only [Bool.and_eq_true, decide_eq_true_eq]
  refine ⟨⟨hl, by rfl⟩, (fold_iff _ _).2 ⟨by rw [List.length_take]; simp [bl]; omega, fun j hj => ?_⟩⟩
  have hj6 : j < 6 := by rw [List.length_take] at hj; omega
  rw [getD_take l 6 j hj6]
  exact h j hj6
theorem okB_short {l : List UInt8} (hl : l.length < 7) : okB l = false := by unfold okB; simp; omega
theorem okB_six {l : List UInt8} (h6 : l.getD 6 0 ≠ 32) : okB l = false := by
  unfold okB
  have : (l.getD 6 0 == 32) = false := by simpa using h6
  rw [this]; simp

end Go.Proofs.Qxb6601828aDoor.Pl
