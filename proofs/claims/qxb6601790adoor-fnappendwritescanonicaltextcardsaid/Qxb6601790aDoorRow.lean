/-
  A row of bytes in memory, told by the list of its bytes; the element type's facts; steps of worlds. And the plain laws of the schoolbook sum.
-/
import Derived.Test.Qxb6601790aDoorWa
import Derived.Deep.OwnRows
import Derived.Laws.BytesArg
namespace Go.Proofs.Qxb6601790aDoor
open Go.RowKit Num
open Go.Lib (decDigits)

/-- Block g holds these bytes from its head on; none of them is frozen. -/
structure Row (w : World) (g : Nat) (xs : List UInt8) : Prop where
  cell : ∀ j (h : j < xs.length), w.cell? ⟨g, j, none⟩ = some (.int .u8 (xs[j].toNat : Int))
  free : ∀ j, j < xs.length → w.frozen? ⟨g, j, none⟩ = false

theorem Row.drew {w : World} {g : Nat} {xs : List UInt8} (h : Row w g xs) : Row w.drew g xs := ⟨h.cell, h.free⟩
theorem Row.below {B : Nat} {w w' : World} {g : Nat} {xs : List UInt8} (h : Row w g xs) (hb : Below B w w') (hg : g < B) : Row w' g xs :=
  ⟨fun j hj => (hb.cell (p := ⟨g, j, none⟩) hg).trans (h.cell j hj), fun j hj => (hb.frozen (p := ⟨g, j, none⟩) hg).trans (h.free j hj)⟩
theorem Row.alloc {w : World} {g : Nat} {xs : List UInt8} (h : Row w g xs) (hg : g < w.heap.size) (o : Obj) : Row (w.alloc o) g xs :=
  h.below ((Below.refl _ _).alloc (Nat.le_refl _) o) hg
theorem Row.store {w : World} {g : Nat} {xs : List UInt8} (h : Row w g xs) (j : Nat) (hj : j < xs.length) (c : UInt8) (z : Int) (hz : z = (c.toNat : Int)) : Row (w.setCell ⟨g, j, none⟩ (.int .u8 z)) g (xs.set j c) := by
  subst hz
  refine ⟨fun i hi => ?_, fun i hi => by rw [World.frozen?_setCell]; exact h.free i (by simpa using hi)⟩
  by_cases e : j = i
  · subst e
    rw [World.cell?_setCell_same _ _ _ (h.cell j hj)]
    simp
  · rw [World.cell?_setCell_other _ _ _ _ (by intro h'; injection h' with _ h2 _; exact e h2)]
    rw [h.cell i (by simpa using hi), List.getElem_set_ne e]
theorem Row.setOther {w : World} {g : Nat} {xs : List UInt8} (h : Row w g xs) {a : Addr} (ha : a.block ≠ g) (v : Value) : Row (w.setCell a v) g xs :=
  ⟨fun i hi => by rw [World.cell?_setCell_other _ _ _ _ (by intro h'; apply ha; rw [h'])]; exact h.cell i hi, fun i hi => by rw [World.frozen?_setCell]; exact h.free i hi⟩
theorem row_made (w : World) (n : Nat) (t : TypeId) : Row (w.alloc (.cells (madeCells #[.int .u8 0] n) t)) w.heap.size (List.replicate n 0) := by
  refine ⟨fun j hj => ?_, fun j _ => by simp⟩
  have hj' : j < n := by simpa using hj
  rw [World.cell?_alloc_new]
  simp [madeCells, hj', Nat.mod_one]

/-- A slice of such a row, made a string. -/
theorem Row.toStr {P : Program} {w : World} {g : Nat} {xs : List UInt8} (h : Row w g xs) (src e dst : TypeId) (hs : P.underlying src = some (.slice e)) (he : P.underlying e = some (.int .u8)) (hd : P.underlying dst = some .string)
    (k n cap : Nat) (hk : k + n ≤ xs.length) :
    (convert src dst (.slice (some ⟨g, k, none⟩) n cap)).run P w = .ok (.string ⟨((xs.drop k).take n).toArray⟩) w := by
  have hl : (((xs.drop k).take n).map fun c => (c.toNat : Int)).length = n := by simp; omega
  rw [run_convert_bytes_arg (P := P) w src e hs he g k n cap (((xs.drop k).take n).map fun c => (c.toNat : Int)) hl (fun i hi => by
    rw [h.cell (k + i) (by omega)]
    simp [List.getD, List.getElem?_drop, hi, List.getElem?_eq_getElem (show k + i < xs.length by omega)]) dst hd]
  congr 2
  unfold strOfNums
  congr 2
  rw [List.map_map]
  conv => rhs; rw [← List.map_id ((xs.drop k).take n)]
  apply List.map_congr_left
  intro x _
  simp

theorem info5 : (Tryd.prog.info? 5).map (fun i => (i.zero, i.size, i.bytes)) = some (some (.int .u8 0), 1, 1) := by kernel_rfl

/-! ### The schoolbook sum: no Go in sight -/
/-- The last p digits have been dealt with. sg: a sum; else a difference. -/
structure Sum (sg : Bool) (m X : List UInt8) (D p c : Nat) : Prop where
  le : p ≤ m.length
  len : X.length = m.length + 1
  dig : allD (X.drop (m.length + 1 - p)) = true
  small : c ≤ 1
  eq : cond sg (val (X.drop (m.length + 1 - p)) + c * 10 ^ p = val (m.drop (m.length - p)) + D % 10 ^ p) (val (X.drop (m.length + 1 - p)) + D % 10 ^ p = val (m.drop (m.length - p)) + c * 10 ^ p)

theorem Sum.start (sg : Bool) (m : List UInt8) (D : Nat) : Sum sg m (List.replicate (m.length + 1) 0) D 0 0 := by
  refine ⟨Nat.zero_le _, by simp, by simp [allD], by omega, ?_⟩
  cases sg <;> simp [val, Nat.mod_one]

theorem drop_set {X : List UInt8} {j : Nat} (h : j < X.length) (c : UInt8) : (X.set j c).drop j = c :: X.drop (j + 1) := by
  rw [List.drop_set]
  simp
  rw [List.drop_eq_getElem_cons h, List.set_cons_zero]

theorem dv_of {t : Nat} (h : t ≤ 9) : dv (UInt8.ofNat (48 + t)) = t := by unfold dv; rw [toNat_ofNat (by omega)]; omega
theorem isDig_of {t : Nat} (h : t ≤ 9) : isDig (UInt8.ofNat (48 + t)) = true := by rw [isDig_iff, toNat_ofNat (by omega)]; omega

/-- One digit more. r: the digit's place from the left; t: the digit that is laid; c': what is carried on. -/
theorem Sum.step {sg : Bool} {m X : List UInt8} {D c : Nat} {r : Nat} (hr : r < m.length) (h : Sum sg m X D (m.length - (r + 1)) c) (t c' : Nat) (ht : t ≤ 9) (hc' : c' ≤ 1)
    (e : cond sg (t + 10 * c' = dv m[r] + (D / 10 ^ (m.length - (r + 1))) % 10 + c) (t + (D / 10 ^ (m.length - (r + 1))) % 10 + c = dv m[r] + 10 * c')) :
    Sum sg m (X.set (r + 1) (UInt8.ofNat (48 + t))) D (m.length - r) c' := by
  have h1 : m.length + 1 - (m.length - r) = r + 1 := by omega
  have h2 : m.length + 1 - (m.length - (r + 1)) = r + 1 + 1 := by omega
  have h3 : m.length - (m.length - r) = r := by omega
  have h4 : m.length - (m.length - (r + 1)) = r + 1 := by omega
  have h5 : m.length - r = m.length - (r + 1) + 1 := by omega
  have hX : r + 1 < X.length := by rw [h.len]; omega
  have hdig := h.dig
  have heq := h.eq
  rw [h2] at hdig
  rw [h2, h4] at heq
  have hlT : (X.drop (r + 1 + 1)).length = m.length - (r + 1) := by rw [List.length_drop, h.len]; omega
  have hlM : (m.drop (r + 1)).length = m.length - (r + 1) := by rw [List.length_drop]
  refine ⟨by omega, by simpa using h.len, ?_, hc', ?_⟩
  · rw [h1, drop_set hX, allD_cons, isDig_of ht, hdig]; rfl
  · rw [h1, h3, drop_set hX, val_cons, dv_of ht, List.drop_eq_getElem_cons hr, val_cons, hlT, hlM, h5, Nat.mod_pow_succ]
    generalize m.length - (r + 1) = p at *
    generalize val (X.drop (r + 1 + 1)) = a at *
    generalize val (m.drop (r + 1)) = b at *
    generalize D / 10 ^ p % 10 = d at *
    generalize dv m[r] = y at *
    have hP := Nat.pow_succ (n := 10) (m := p)
    generalize 10 ^ (p + 1) = P1 at *
    generalize 10 ^ p = Q at *
    subst hP
    cases sg
    · simp only [cond] at e heq ⊢
      have := congrArg (· * Q) e
      simp only [Nat.add_mul] at this
      have e1 : 10 * c' * Q = c' * (Q * 10) := by rw [Nat.mul_comm 10 c', Nat.mul_assoc, Nat.mul_comm 10 Q]
      rw [e1] at this
      have e2 : d * Q = Q * d := Nat.mul_comm _ _
      omega
    · simp only [cond] at e heq ⊢
      have := congrArg (· * Q) e
      simp only [Nat.add_mul] at this
      have e1 : 10 * c' * Q = c' * (Q * 10) := by rw [Nat.mul_comm 10 c', Nat.mul_assoc, Nat.mul_comm 10 Q]
      rw [e1] at this
      have e2 : d * Q = Q * d := Nat.mul_comm _ _
      omega

/-- All digits dealt with: a sum. -/
theorem Sum.done_add {m X : List UInt8} {D c : Nat} (h : Sum true m X D m.length c) (hD : D < 10 ^ m.length) :
    allD (X.set 0 (UInt8.ofNat (48 + c))) = true ∧ val (X.set 0 (UInt8.ofNat (48 + c))) = val m + D := by
  have hs := h.small
  have h1 : m.length + 1 - m.length = 1 := by omega
  have hd := h.dig
  have he := h.eq
  rw [h1] at hd
  rw [h1, Nat.sub_self] at he
  simp only [cond, List.drop_zero] at he
  rw [Nat.mod_eq_of_lt hD] at he
  have hX : 0 < X.length := by rw [h.len]; omega
  have e : X.set 0 (UInt8.ofNat (48 + c)) = UInt8.ofNat (48 + c) :: X.drop 1 := by have := drop_set hX (UInt8.ofNat (48 + c)); simpa using this
  have hl : (X.drop 1).length = m.length := by rw [List.length_drop, h.len]; omega
  rw [e, allD_cons, isDig_of (by omega), hd, val_cons, dv_of (by omega), hl]
  exact ⟨rfl, by omega⟩

/-- .. a difference that is not below 0. -/
theorem Sum.done_sub {m X : List UInt8} {D c : Nat} (h : Sum false m X D m.length c) (hD : D < 10 ^ m.length) (hge : D ≤ val m) :
    allD (X.set 0 48) = true ∧ val (X.set 0 48) + D = val m := by
  have hs := h.small
  have h1 : m.length + 1 - m.length = 1 := by omega
  have hd := h.dig
  have he := h.eq
  rw [h1] at hd
  rw [h1, Nat.sub_self] at he
  simp only [cond, List.drop_zero] at he
  rw [Nat.mod_eq_of_lt hD] at he
  have hX : 0 < X.length := by rw [h.len]; omega
  have e : X.set 0 48 = 48 :: X.drop 1 := by have := drop_set hX 48; simpa using this
  have hl : (X.drop 1).length = m.length := by rw [List.length_drop, h.len]; omega
  have hlt := val_lt hd
  rw [hl] at hlt
  have hc0 : c = 0 := by
    rcases Nat.lt_or_ge c 1 with h | h
    · omega
    · have : c = 1 := by omega
      subst this
      omega
  subst hc0
  rw [e, allD_cons, hd, val_cons]
  refine ⟨rfl, ?_⟩
  have : dv 48 = 0 := by decide
  rw [this]
  omega

/-- The leading zeros struck, but one digit kept. -/
theorem strip_keep {Y : List UInt8} {k : Nat} (hY : allD Y = true) (hk : k < Y.length) (hz : ∀ j, (h : j < k) → Y[j] = 48) (hs : Y[k] ≠ 48 ∨ k + 1 = Y.length) : Y.drop k = decDigits (val Y) := by
  have hsplit : Y = List.replicate k 48 ++ Y.drop k := by
    conv => lhs; rw [← List.take_append_drop k Y]
    congr 1
    apply List.ext_getElem
    · simp; omega
    · intro i h1 h2
      simp at h1 h2 ⊢
      exact hz i h2
  have hv : val Y = val (Y.drop k) := by conv => lhs; rw [hsplit, val_zeros_append]
  rw [hv]
  have hd := allD_drop hY k
  rw [List.drop_eq_getElem_cons hk] at hd ⊢
  by_cases h48 : Y[k] = 48
  · rcases hs with hs | hs
    · exact absurd h48 hs
    · have e : Y.drop (k + 1) = [] := List.drop_eq_nil_of_le (by omega)
      rw [e, h48]
      decide +kernel
  · rw [decDigits_val hd h48]

end Go.Proofs.Qxb6601790aDoor
