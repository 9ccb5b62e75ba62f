/-
  Plain laws of reading a number's text: the parts, the number, the state machine of the model. No program in sight.
-/
import Derived.Test.Qxb6601790aDoorNum
namespace Go.Proofs.Qxb6601790aDoor.Num
open Go.Lib (decDigits)

def isSg (c : UInt8) : Bool := c == 43 || c == 45
def isEx (c : UInt8) : Bool := c == 101 || c == 69
def dg (l : List UInt8) : List UInt8 := l.takeWhile isDig
def nd (l : List UInt8) : List UInt8 := l.dropWhile isDig
def dropSign : List UInt8 → List UInt8
  | [] => []
  | c :: l => if isSg c then l else c :: l
def isNeg : List UInt8 → Bool
  | [] => false
  | c :: _ => c == 45
def trimL (l : List UInt8) : List UInt8 := l.dropWhile (· == 48)
def trimR (l : List UInt8) : List UInt8 := (l.reverse.dropWhile (· == 48)).reverse

/-! ### The parts of a text -/
structure Parts where
  neg : Bool
  ip : List UInt8
  fp : List UInt8
  ex : List UInt8
def fracOf : List UInt8 → List UInt8 × List UInt8
  | [] => ([], [])
  | c :: t => if c == 46 then (dg t, nd t) else ([], c :: t)
def expOf : List UInt8 → Option (List UInt8)
  | [] => some []
  | c :: r => if isEx c && !(dropSign r).isEmpty && allD (dropSign r) then some r else none
def partsOf (l : List UInt8) : Option Parts :=
  if (dg (dropSign l)).isEmpty && (fracOf (nd (dropSign l))).1.isEmpty then none
  else (expOf (fracOf (nd (dropSign l))).2).map fun ex => ⟨isNeg l, dg (dropSign l), (fracOf (nd (dropSign l))).1, ex⟩

/-! ### The number -/
structure Nm where
  neg : Bool
  ip : List UInt8
  fp : List UInt8
  pt : Int
  bp : List UInt8
def Nm.zero : Nm := ⟨false, [], [], 0, []⟩
def sgn (b : Bool) (x : Int) : Int := if b then -x else x
def addE (en : Bool) (mag : List UInt8) (sh : Int) : Int × List UInt8 :=
  if mag.length ≤ 18 then (sgn en (val mag) + sh, []) else (0, (if en then [45] else []) ++ decDigits ((val mag : Int) + sgn en sh).toNat)
def addExp (ex : List UInt8) (sh : Int) : Int × List UInt8 := addE (isNeg ex) (trimL (dropSign ex)) sh
def shiftOf (ip fp : List UInt8) : Int := if (trimL ip).isEmpty then -((fp.length : Int) - (trimL fp).length) else ((trimL ip).length : Int)
def fracT (ip fp : List UInt8) : List UInt8 := trimR (if (trimL ip).isEmpty then trimL fp else fp)
def intT (ip fp : List UInt8) : List UInt8 := if (fracT ip fp).isEmpty then trimR (trimL ip) else trimL ip
def mkN (neg : Bool) (a b : List UInt8) (q : Int × List UInt8) : Nm := if a.isEmpty && b.isEmpty then .zero else ⟨neg, a, b, q.1, q.2⟩
def fromP (p : Parts) : Nm := mkN p.neg (intT p.ip p.fp) (fracT p.ip p.fp) (addExp p.ex (shiftOf p.ip p.fp))
def readB (l : List UInt8) : Nm × Bool := match partsOf l with
  | none => (.zero, false)
  | some p => (fromP p, true)

/-! ### The model -/
structure St where
  st : Nat
  neg : Bool
  en : Bool
  li : Nat
  mant : List UInt8
  exp : List UInt8
def nxt : Nat → UInt8 → Option Nat
  | 0, c => if isSg c then some 1 else if isDig c then some 2 else if c == 46 then some 4 else none
  | 1, c => if isDig c then some 2 else if c == 46 then some 4 else none
  | 2, c => if isDig c then some 2 else if c == 46 then some 3 else if isEx c then some 6 else none
  | 3, c => if isDig c then some 5 else if isEx c then some 6 else none
  | 4, c => if isDig c then some 5 else none
  | 5, c => if isDig c then some 5 else if isEx c then some 6 else none
  | 6, c => if isSg c then some 7 else if isDig c then some 8 else none
  | _, c => if isDig c then some 8 else none
def put (σ : St) (c : UInt8) (n : Nat) : St :=
  { st := n
    neg := if σ.st = 0 ∧ isSg c = true then c == 45 else σ.neg
    en := if σ.st = 6 ∧ isSg c = true then c == 45 else σ.en
    li := if isDig c = true ∧ n = 2 then σ.li + 1 else σ.li
    mant := if isDig c = true ∧ (n = 2 ∨ n = 5) then σ.mant ++ [c] else σ.mant
    exp := if isDig c = true ∧ ¬ (n = 2 ∨ n = 5) then σ.exp ++ [c] else σ.exp }
def runS : St → List UInt8 → Option St
  | σ, [] => some σ
  | σ, c :: l => match nxt σ.st c with
    | none => none
    | some n => runS (put σ c n) l
def okSt (n : Nat) : Bool := n == 2 || n == 3 || n == 5 || n == 8
def St.start : St := ⟨0, false, false, 0, [], []⟩
/-- The first place that is no zero; one past the last such place. -/
def fst0 (m : List UInt8) : Nat := (m.takeWhile (· == 48)).length
def modInt (li : Nat) (m : List UInt8) : List UInt8 := if fst0 m < li then (m.drop (fst0 m)).take (min li (trimR m).length - fst0 m) else []
def modFrac (li : Nat) (m : List UInt8) : List UInt8 := if li < (trimR m).length then (m.drop (max li (fst0 m))).take ((trimR m).length - max li (fst0 m)) else []
def modelN (neg en : Bool) (li : Nat) (mant exp : List UInt8) : Nm := if fst0 mant = mant.length then .zero else ⟨neg, modInt li mant, modFrac li mant, (addE en (trimL exp) ((li : Int) - fst0 mant)).1, (addE en (trimL exp) ((li : Int) - fst0 mant)).2⟩
def outOf (σ : St) : Option Nm := if okSt σ.st then some (modelN σ.neg σ.en σ.li σ.mant σ.exp) else none
def runG (σ : St) (l : List UInt8) : Option Nm := (runS σ l).bind outOf
def modelB (l : List UInt8) : Nm × Bool := match runG St.start l with
  | none => (.zero, false)
  | some n => (n, true)

/-! ### Classes of bytes -/
theorem dig_not_sg {c : UInt8} (h : isDig c = true) : isSg c = false := by
  rw [isDig_iff] at h
  unfold isSg
  rw [Bool.or_eq_false_iff, beq_eq_false_iff_ne, beq_eq_false_iff_ne]
  exact ⟨fun e => by rw [e] at h; exact absurd h (by decide), fun e => by rw [e] at h; exact absurd h (by decide)⟩
theorem dig_not_dot {c : UInt8} (h : isDig c = true) : (c == 46) = false := by
  rw [isDig_iff] at h
  rw [beq_eq_false_iff_ne]
  exact fun e => by rw [e] at h; exact absurd h (by decide)
theorem dig_not_ex {c : UInt8} (h : isDig c = true) : isEx c = false := by
  rw [isDig_iff] at h
  unfold isEx
  rw [Bool.or_eq_false_iff, beq_eq_false_iff_ne, beq_eq_false_iff_ne]
  exact ⟨fun e => by rw [e] at h; exact absurd h (by decide), fun e => by rw [e] at h; exact absurd h (by decide)⟩
theorem sg_not_dig {c : UInt8} (h : isSg c = true) : isDig c = false := by
  cases e : isDig c with
  | false => rfl
  | true => rw [dig_not_sg e] at h; exact absurd h (by decide)
theorem dot_not_dig {c : UInt8} (h : (c == 46) = true) : isDig c = false := by
  cases e : isDig c with
  | false => rfl
  | true => rw [dig_not_dot e] at h; exact absurd h (by decide)
theorem ex_not_dig {c : UInt8} (h : isEx c = true) : isDig c = false := by
  cases e : isDig c with
  | false => rfl
  | true => rw [dig_not_ex e] at h; exact absurd h (by decide)
theorem ex_not_dot {c : UInt8} (h : isEx c = true) : (c == 46) = false := by
  cases e : c == 46 with
  | false => rfl
  | true => rw [beq_iff_eq] at e; rw [e] at h; exact absurd h (by decide)

/-! ### Trimming -/
theorem trimL_eq_drop (l : List UInt8) : trimL l = l.drop (fst0 l) := by
  unfold trimL fst0
  induction l with
  | nil => rfl
  | cons c l ih => cases h : c == 48 <;> simp [List.dropWhile, List.takeWhile, h, ih]
theorem fst0_le (l : List UInt8) : fst0 l ≤ l.length := by
  unfold fst0; exact (List.takeWhile_prefix _).length_le
theorem trimL_length (l : List UInt8) : (trimL l).length = l.length - fst0 l := by rw [trimL_eq_drop, List.length_drop]
theorem trimL_nil_iff (l : List UInt8) : trimL l = [] ↔ fst0 l = l.length := by
  rw [← List.length_eq_zero_iff, trimL_length]
  have := fst0_le l
  omega
theorem fst0_cons_zero (l : List UInt8) : fst0 (48 :: l) = fst0 l + 1 := by simp [fst0, List.takeWhile]
theorem fst0_cons_ne {c : UInt8} (h : c ≠ 48) (l : List UInt8) : fst0 (c :: l) = 0 := by
  have : (c == 48) = false := by simpa using h
  simp [fst0, List.takeWhile, this]
theorem fst0_append_all {a : List UInt8} (h : fst0 a = a.length) (b : List UInt8) : fst0 (a ++ b) = a.length + fst0 b := by
  induction a with
  | nil => simp
  | cons c a ih =>
    by_cases hc : c = 48
    · subst hc
      rw [fst0_cons_zero, List.length_cons] at h
      rw [List.cons_append, fst0_cons_zero, ih (by omega), List.length_cons]
      omega
    · rw [fst0_cons_ne hc] at h
      simp at h
theorem fst0_append_not {a : List UInt8} (h : fst0 a < a.length) (b : List UInt8) : fst0 (a ++ b) = fst0 a := by
  induction a with
  | nil => simp at h
  | cons c a ih =>
    by_cases hc : c = 48
    · subst hc
      rw [fst0_cons_zero, List.length_cons] at h
      rw [List.cons_append, fst0_cons_zero, fst0_cons_zero, ih (by omega)]
    · rw [List.cons_append, fst0_cons_ne hc, fst0_cons_ne hc]
theorem trimR_nil : trimR [] = [] := rfl
theorem trimR_snoc_zero (l : List UInt8) : trimR (l ++ [48]) = trimR l := by simp [trimR]
theorem trimR_snoc_ne (l : List UInt8) {c : UInt8} (h : c ≠ 48) : trimR (l ++ [c]) = l ++ [c] := by
  have : (c == 48) = false := by simpa using h
  simp [trimR, this]
theorem trimR_append_nil (a : List UInt8) : ∀ b : List UInt8, trimR b = [] → trimR (a ++ b) = trimR a := by
  refine snoc_rec (P := fun b => trimR b = [] → trimR (a ++ b) = trimR a) (fun _ => by rw [List.append_nil]) (fun b c ih h => ?_)
  by_cases hc : c = 48
  · subst hc
    rw [trimR_snoc_zero] at h
    rw [← List.append_assoc, trimR_snoc_zero, ih h]
  · rw [trimR_snoc_ne b hc] at h
    simp at h
theorem trimR_append_not (a : List UInt8) : ∀ b : List UInt8, trimR b ≠ [] → trimR (a ++ b) = a ++ trimR b := by
  refine snoc_rec (P := fun b => trimR b ≠ [] → trimR (a ++ b) = a ++ trimR b) (fun h => absurd rfl h) (fun b c ih h => ?_)
  by_cases hc : c = 48
  · subst hc
    rw [trimR_snoc_zero] at h
    rw [← List.append_assoc, trimR_snoc_zero, trimR_snoc_zero, ih h]
  · rw [← List.append_assoc, trimR_snoc_ne _ hc, trimR_snoc_ne _ hc, List.append_assoc]
theorem trimR_take : ∀ l : List UInt8, trimR l = l.take (trimR l).length := by
  refine snoc_rec rfl (fun l c ih => ?_)
  by_cases hc : c = 48
  · subst hc
    rw [trimR_snoc_zero]
    have hle : (trimR l).length ≤ l.length := by have := congrArg List.length ih; rw [List.length_take] at this; omega
    rw [List.take_append_of_le_length hle]
    exact ih
  · rw [trimR_snoc_ne _ hc, List.take_length]
theorem trimR_le (l : List UInt8) : (trimR l).length ≤ l.length := by
  have := congrArg List.length (trimR_take l); rw [List.length_take] at this; omega
theorem trimL_cons_zero (l : List UInt8) : trimL (48 :: l) = trimL l := by simp [trimL, List.dropWhile]
theorem trimL_cons_ne {c : UInt8} (h : c ≠ 48) (l : List UInt8) : trimL (c :: l) = c :: l := by
  have : (c == 48) = false := by simpa using h
  simp [trimL, List.dropWhile, this]
theorem trimL_idem (l : List UInt8) : trimL (trimL l) = trimL l := by
  induction l with
  | nil => rfl
  | cons c l ih =>
    by_cases hc : c = 48
    · subst hc; rw [trimL_cons_zero, ih]
    · rw [trimL_cons_ne hc, trimL_cons_ne hc]
theorem trimL_nil_all (l : List UInt8) : trimL l = [] ↔ ∀ c ∈ l, c = 48 := by
  induction l with
  | nil => simp [trimL]
  | cons c l ih =>
    by_cases hc : c = 48
    · subst hc; rw [trimL_cons_zero, ih]; simp
    · rw [trimL_cons_ne hc]; simp [hc]
/-- All zeros. -/
theorem trimR_nil_iff (l : List UInt8) : trimR l = [] ↔ trimL l = [] := by
  have h1 := trimL_nil_all l.reverse
  unfold trimR
  unfold trimL at h1
  rw [List.reverse_eq_nil_iff, h1, trimL_nil_all l]
  simp
theorem trimR_split {l : List UInt8} (h : trimL l ≠ []) : trimR l = l.take (fst0 l) ++ trimR (trimL l) := by
  conv => lhs; rw [← List.take_append_drop (fst0 l) l, ← trimL_eq_drop]
  rw [trimR_append_not]
  intro e
  rw [trimR_nil_iff, trimL_idem] at e
  exact h e
theorem trimL_append_nil {a : List UInt8} (h : trimL a = []) (b : List UInt8) : trimL (a ++ b) = trimL b := by
  rw [trimL_nil_iff] at h
  rw [trimL_eq_drop, fst0_append_all h, trimL_eq_drop b, List.drop_append]
  simp
theorem trimL_append_not {a : List UInt8} (h : trimL a ≠ []) (b : List UInt8) : trimL (a ++ b) = trimL a ++ b := by
  have h' : fst0 a < a.length := by
    have := fst0_le a
    have : fst0 a ≠ a.length := fun e => h ((trimL_nil_iff a).2 e)
    omega
  rw [trimL_eq_drop, fst0_append_not h', trimL_eq_drop a, List.drop_append_of_le_length (by omega)]

/-- The closed form of the model is the number of the parts. -/
theorem model_digits (ip fp : List UInt8) (hne : trimL (ip ++ fp) ≠ []) :
    modInt ip.length (ip ++ fp) = intT ip fp ∧ modFrac ip.length (ip ++ fp) = fracT ip fp ∧ ((ip.length : Int) - fst0 (ip ++ fp)) = shiftOf ip fp := by
  by_cases hi : trimL ip = []
  · have hf := (trimL_nil_iff ip).1 hi
    have e0 : fst0 (ip ++ fp) = ip.length + fst0 fp := fst0_append_all hf fp
    rw [trimL_append_nil hi] at hne
    have hr : trimR fp ≠ [] := fun e => hne ((trimR_nil_iff fp).1 e)
    have e1 : trimR (ip ++ fp) = ip ++ trimR fp := trimR_append_not ip fp hr
    have hlf := fst0_le fp
    have hsp := trimR_split hne
    have hlen := congrArg List.length hsp
    rw [List.length_append, List.length_take, Nat.min_eq_left hlf] at hlen
    have hT : (trimL ip).isEmpty = true := by rw [hi]; rfl
    have hT2 : fracT ip fp = trimR (trimL fp) := by unfold fracT; rw [if_pos hT]
    have hne2 : trimR (trimL fp) ≠ [] := fun e => hne (by rw [trimR_nil_iff, trimL_idem] at e; exact e)
    refine ⟨?_, ?_, ?_⟩
    · unfold modInt intT
      rw [e0, if_neg (by omega), hT2, if_neg (by simpa using hne2), hi]
    · unfold modFrac
      have hpos : 0 < (trimR (trimL fp)).length := List.length_pos_iff.2 hne2
      rw [e0, e1, hT2, List.length_append, if_pos (by omega), Nat.max_eq_right (by omega), List.drop_append, show ip.length + fst0 fp - ip.length = fst0 fp by omega, List.drop_eq_nil_of_le (by omega), List.nil_append, ← trimL_eq_drop]
      rw [trimR_take (trimL fp)]
      congr 1
      omega
    · unfold shiftOf
      rw [e0, if_pos hT, trimL_length]
      omega
  · have hlt : fst0 ip < ip.length := by
      have := fst0_le ip
      have : fst0 ip ≠ ip.length := fun e => hi ((trimL_nil_iff ip).2 e)
      omega
    have e0 : fst0 (ip ++ fp) = fst0 ip := fst0_append_not hlt fp
    have hT : (trimL ip).isEmpty = false := by cases h : trimL ip with | nil => exact absurd h hi | cons _ _ => rfl
    have hF : fracT ip fp = trimR fp := by unfold fracT; rw [hT]; rfl
    have hS : ((ip.length : Int) - fst0 (ip ++ fp)) = shiftOf ip fp := by
      unfold shiftOf
      rw [e0, hT, if_neg (by decide), trimL_length]
      omega
    by_cases hr : trimR fp = []
    · have e1 : trimR (ip ++ fp) = trimR ip := trimR_append_nil ip fp hr
      have hle := trimR_le ip
      have hsp := trimR_split hi
      have hlen := congrArg List.length hsp
      rw [List.length_append, List.length_take, Nat.min_eq_left (by omega)] at hlen
      refine ⟨?_, ?_, hS⟩
      · unfold modInt intT
        rw [e0, e1, if_pos hlt, hF, if_pos (by rw [hr]; rfl), Nat.min_eq_right hle, List.drop_append_of_le_length (by omega), ← trimL_eq_drop, List.take_append_of_le_length (by rw [trimL_length]; omega)]
        rw [trimR_take (trimL ip)]
        congr 1
        omega
      · unfold modFrac
        rw [e1, if_neg (by omega), hF, hr]
    · have e1 : trimR (ip ++ fp) = ip ++ trimR fp := trimR_append_not ip fp hr
      have hpos : 0 < (trimR fp).length := List.length_pos_iff.2 hr
      refine ⟨?_, ?_, hS⟩
      · unfold modInt intT
        rw [e0, e1, if_pos hlt, hF, if_neg (by simpa using hr), List.length_append, Nat.min_eq_left (by omega), List.drop_append_of_le_length (by omega), ← trimL_eq_drop, List.take_append_of_le_length (by rw [trimL_length]; omega), List.take_of_length_le (by rw [trimL_length]; omega)]
      · unfold modFrac
        rw [e0, e1, hF, List.length_append, if_pos (by omega), Nat.max_eq_left (by omega), List.drop_append, List.drop_eq_nil_of_le (by omega), List.nil_append, Nat.sub_self, List.drop_zero, show ip.length + (trimR fp).length - ip.length = (trimR fp).length by omega, ← trimR_take]


/-! ### The machine, from its end to its start -/
theorem runG_nil (σ : St) : runG σ [] = outOf σ := rfl
theorem runG_cons_none {σ : St} {c : UInt8} {l : List UInt8} (h : nxt σ.st c = none) : runG σ (c :: l) = none := by simp [runG, runS, h]
theorem runG_cons_some {σ : St} {c : UInt8} {l : List UInt8} {n : Nat} (h : nxt σ.st c = some n) : runG σ (c :: l) = runG (put σ c n) l := by simp [runG, runS, h]

theorem G8 (n e : Bool) (li : Nat) (m : List UInt8) : ∀ (l x : List UInt8), runG ⟨8, n, e, li, m, x⟩ l = if allD l then some (modelN n e li m (x ++ l)) else none
  | [], x => by rw [runG_nil, List.append_nil]; rfl
  | c :: l, x => by
    rw [allD_cons]
    cases h : isDig c with
    | false => rw [runG_cons_none (by simp [nxt, h])]; rfl
    | true =>
      rw [runG_cons_some (n := 8) (by simp [nxt, h])]
      have e : put ⟨8, n, e, li, m, x⟩ c 8 = ⟨8, n, e, li, m, x ++ [c]⟩ := by simp [put, h]
      rw [e, G8 n _ li m l, List.append_assoc]
      rfl
theorem G7 (n e : Bool) (li : Nat) (m l : List UInt8) : runG ⟨7, n, e, li, m, []⟩ l = if !l.isEmpty && allD l then some (modelN n e li m l) else none := by
  cases l with
  | nil => rfl
  | cons c l =>
    rw [allD_cons]
    cases h : isDig c with
    | false => rw [runG_cons_none (by simp [nxt, h])]; rfl
    | true =>
      rw [runG_cons_some (n := 8) (by simp [nxt, h])]
      have e : put ⟨7, n, e, li, m, []⟩ c 8 = ⟨8, n, e, li, m, [c]⟩ := by simp [put, h]
      rw [e, G8]
      rfl
theorem G6 (n : Bool) (li : Nat) (m l : List UInt8) : runG ⟨6, n, false, li, m, []⟩ l = if !(dropSign l).isEmpty && allD (dropSign l) then some (modelN n (isNeg l) li m (dropSign l)) else none := by
  cases l with
  | nil => rfl
  | cons c l =>
    cases h : isSg c with
    | true =>
      rw [runG_cons_some (n := 7) (by simp [nxt, h])]
      have e : put ⟨6, n, false, li, m, []⟩ c 7 = ⟨7, n, c == 45, li, m, []⟩ := by simp [put, h, sg_not_dig h]
      rw [e, G7]
      simp [dropSign, h, isNeg]
    | false =>
      have hn : isNeg (c :: l) = false := by
        unfold isSg at h
        rw [Bool.or_eq_false_iff] at h
        exact h.2
      have hd : dropSign (c :: l) = c :: l := by simp [dropSign, h]
      rw [hn, hd, allD_cons]
      cases hg : isDig c with
      | false => rw [runG_cons_none (by simp [nxt, h, hg])]; rfl
      | true =>
        rw [runG_cons_some (n := 8) (by simp [nxt, h, hg])]
        have e : put ⟨6, n, false, li, m, []⟩ c 8 = ⟨8, n, false, li, m, [c]⟩ := by simp [put, h, hg]
        rw [e, G8]
        rfl
/-- Behind the digits: an exponent, or the end. -/
theorem Gexp (s : Nat) (hs : s = 2 ∨ s = 3 ∨ s = 5) (n : Bool) (li : Nat) (m l : List UInt8) (hd : ∀ c t, l = c :: t → isDig c = false) (hp : s = 2 → ∀ c t, l = c :: t → (c == 46) = false) :
    runG ⟨s, n, false, li, m, []⟩ l = (expOf l).map fun ex => modelN n (isNeg ex) li m (dropSign ex) := by
  cases l with
  | nil => rcases hs with rfl | rfl | rfl <;> rfl
  | cons c l =>
    have h1 := hd c l rfl
    have hx : expOf (c :: l) = if isEx c && !(dropSign l).isEmpty && allD (dropSign l) then some l else none := rfl
    rw [hx]
    cases h : isEx c with
    | false =>
      rw [runG_cons_none]
      · rfl
      · rcases hs with rfl | rfl | rfl
        · have := hp rfl c l rfl
          simp [nxt, h1, h]; simpa using this
        · simp [nxt, h1, h]
        · simp [nxt, h1, h]
    | true =>
      rw [runG_cons_some (n := 6)]
      · have e : put ⟨s, n, false, li, m, []⟩ c 6 = ⟨6, n, false, li, m, []⟩ := by
          rcases hs with rfl | rfl | rfl <;> simp [put, h1]
        rw [e, G6]
        rw [Bool.true_and]
        cases hc : (!(dropSign l).isEmpty && allD (dropSign l)) with
        | true => rfl
        | false => rfl
      · rcases hs with rfl | rfl | rfl
        · have := ex_not_dot h
          simp [nxt, h1, h]; simpa using this
        · simp [nxt, h1, h]
        · simp [nxt, h1, h]
/-- Digits before the point. -/
theorem G2 (n : Bool) : ∀ (d : List UInt8) (li : Nat) (m r : List UInt8), allD d = true → runG ⟨2, n, false, li, m, []⟩ (d ++ r) = runG ⟨2, n, false, li + d.length, m ++ d, []⟩ r
  | [], li, m, r, _ => by simp
  | c :: d, li, m, r, h => by
    rw [allD_cons, Bool.and_eq_true] at h
    rw [List.cons_append, runG_cons_some (n := 2) (by simp [nxt, h.1])]
    have e : put ⟨2, n, false, li, m, []⟩ c 2 = ⟨2, n, false, li + 1, m ++ [c], []⟩ := by simp [put, h.1]
    rw [e, G2 n d _ _ r h.2, List.append_assoc, List.length_cons, Nat.add_assoc, Nat.add_comm 1]
    rfl
/-- Digits behind the point. -/
theorem G5 (n : Bool) (li : Nat) : ∀ (d m r : List UInt8), allD d = true → runG ⟨5, n, false, li, m, []⟩ (d ++ r) = runG ⟨5, n, false, li, m ++ d, []⟩ r
  | [], m, r, _ => by simp
  | c :: d, m, r, h => by
    rw [allD_cons, Bool.and_eq_true] at h
    rw [List.cons_append, runG_cons_some (n := 5) (by simp [nxt, h.1])]
    have e : put ⟨5, n, false, li, m, []⟩ c 5 = ⟨5, n, false, li, m ++ [c], []⟩ := by simp [put, h.1]
    rw [e, G5 n li d _ r h.2, List.append_assoc]
    rfl
theorem dg_nd (l : List UInt8) : dg l ++ nd l = l := List.takeWhile_append_dropWhile
theorem dg_allD (l : List UInt8) : allD (dg l) = true := by
  induction l with
  | nil => rfl
  | cons c l ih =>
    cases h : isDig c with
    | false => simp [dg, List.takeWhile, h, allD]
    | true => have e : dg (c :: l) = c :: dg l := by simp [dg, List.takeWhile, h]
              rw [e, allD_cons, h, ih]; rfl
theorem nd_head (l : List UInt8) : ∀ c t, nd l = c :: t → isDig c = false := by
  induction l with
  | nil => intro c t h; simp [nd] at h
  | cons b l ih =>
    intro c t h
    cases hb : isDig b with
    | true => rw [nd, List.dropWhile, hb] at h; exact ih c t h
    | false =>
      rw [nd, List.dropWhile, hb] at h
      injection h with h1 h2
      rw [← h1]; exact hb
theorem dg_nil {l : List UInt8} (h : ∀ c t, l = c :: t → isDig c = false) : dg l = [] ∧ nd l = l := by
  cases l with
  | nil => exact ⟨rfl, rfl⟩
  | cons c t => have := h c t rfl; simp [dg, nd, List.takeWhile, List.dropWhile, this]

/-- What a text of parts comes to. -/
def outP (p : Parts) : Nm := modelN p.neg (isNeg p.ex) p.ip.length (p.ip ++ p.fp) (dropSign p.ex)
/-- Behind the sign. -/
def partsR (n : Bool) (r : List UInt8) : Option Parts :=
  if (dg r).isEmpty && (fracOf (nd r)).1.isEmpty then none
  else (expOf (fracOf (nd r)).2).map fun ex => ⟨n, dg r, (fracOf (nd r)).1, ex⟩

/-- A digit is next, or was: behind at least one digit. -/
theorem Gint (n : Bool) (ip r : List UInt8) (hr : ∀ c t, r = c :: t → isDig c = false) :
    runG ⟨2, n, false, ip.length, ip, []⟩ r = (expOf (fracOf r).2).map fun ex => outP ⟨n, ip, (fracOf r).1, ex⟩ := by
  cases r with
  | nil => simp [fracOf, expOf, outP, runG, runS, outOf, okSt, isNeg, dropSign]
  | cons c t =>
    cases h : (c == 46) with
    | false =>
      rw [Gexp 2 (.inl rfl) n _ _ _ hr (fun _ c' t' e => by injection e with e1 _; rw [← e1]; exact h)]
      simp [fracOf, h, outP]
    | true =>
      have hf : fracOf (c :: t) = (dg t, nd t) := by simp [fracOf, h]
      rw [hf, runG_cons_some (n := 3) (by simp [nxt, dot_not_dig h]; simpa using h)]
      have e : put ⟨2, n, false, ip.length, ip, []⟩ c 3 = ⟨3, n, false, ip.length, ip, []⟩ := by simp [put, dot_not_dig h]
      rw [e]
      cases hd : dg t with
      | nil =>
        have hn : nd t = t := by have := dg_nd t; rw [hd] at this; exact this
        rw [hn, Gexp 3 (.inr (.inl rfl)) n _ _ _ (by have := nd_head t; rw [hn] at this; exact this) (fun h => by omega)]
        simp [outP]
      | cons b d =>
        have hall := dg_allD t
        rw [hd, allD_cons, Bool.and_eq_true] at hall
        have ht : t = b :: (d ++ nd t) := by have := dg_nd t; rw [hd] at this; exact this.symm
        conv => lhs; rw [ht]
        rw [runG_cons_some (n := 5) (by simp [nxt, hall.1])]
        have e2 : put ⟨3, n, false, ip.length, ip, []⟩ b 5 = ⟨5, n, false, ip.length, ip ++ [b], []⟩ := by simp [put, hall.1]
        rw [e2, G5 n _ d _ _ hall.2, Gexp 5 (.inr (.inr rfl)) n _ _ _ (nd_head t) (fun h => by omega)]
        simp [outP]
/-- Behind the sign. -/
theorem G1 (n : Bool) (s : Nat) (hs : s = 0 ∨ s = 1) (r : List UInt8) (h0 : s = 0 → ∀ c t, r = c :: t → isSg c = false) :
    runG ⟨s, n, false, 0, [], []⟩ r = (partsR n r).map outP := by
  cases r with
  | nil => rcases hs with rfl | rfl <;> rfl
  | cons c t =>
    cases hd : isDig c with
    | true =>
      have hn : nxt s c = some 2 := by rcases hs with rfl | rfl <;> simp [nxt, hd, dig_not_sg hd]
      rw [runG_cons_some hn]
      have e : put ⟨s, n, false, 0, [], []⟩ c 2 = ⟨2, n, false, 1, [c], []⟩ := by simp [put, hd, dig_not_sg hd]
      have h1 : dg (c :: t) = c :: dg t := by simp [dg, List.takeWhile, hd]
      have h2 : nd (c :: t) = nd t := by simp [nd, List.dropWhile, hd]
      rw [e]
      conv => lhs; rw [← dg_nd t]
      rw [G2 n _ _ _ _ (dg_allD t)]
      have h3 := Gint n (c :: dg t) (nd t) (nd_head t)
      rw [List.length_cons, Nat.add_comm] at h3
      unfold partsR
      rw [h1, h2, show [c] ++ dg t = c :: dg t from rfl, h3]
      simp
      rfl
    | false =>
      have h1 : dg (c :: t) = [] := by simp [dg, List.takeWhile, hd]
      have h2 : nd (c :: t) = c :: t := by simp [nd, List.dropWhile, hd]
      have hsg : nxt s c = if c == 46 then some 4 else none := by
        rcases hs with rfl | rfl
        · have := h0 rfl c t rfl
          simp [nxt, this, hd]
        · simp [nxt, hd]
      unfold partsR
      rw [h1, h2]
      cases hc : (c == 46) with
      | false =>
        rw [hc] at hsg
        rw [runG_cons_none hsg]
        simp [fracOf, hc]
      | true =>
        rw [hc] at hsg
        rw [runG_cons_some (n := 4) hsg]
        have hsgf : isSg c = false := by rw [beq_iff_eq] at hc; subst hc; decide
        have e : put ⟨s, n, false, 0, [], []⟩ c 4 = ⟨4, n, false, 0, [], []⟩ := by simp [put, hd, hsgf]
        have hf : fracOf (c :: t) = (dg t, nd t) := by simp [fracOf, hc]
        rw [e, hf]
        cases hdt : dg t with
        | nil =>
          have hn : nd t = t := by have := dg_nd t; rw [hdt] at this; exact this
          cases t with
          | nil => rfl
          | cons b u =>
            have := nd_head (b :: u) b u hn
            rw [runG_cons_none (by simp [nxt, this])]
            rfl
        | cons b d =>
          have hall := dg_allD t
          rw [hdt, allD_cons, Bool.and_eq_true] at hall
          have ht : t = b :: (d ++ nd t) := by have := dg_nd t; rw [hdt] at this; exact this.symm
          conv => lhs; rw [ht]
          rw [runG_cons_some (n := 5) (by simp [nxt, hall.1])]
          have e2 : put ⟨4, n, false, 0, [], []⟩ b 5 = ⟨5, n, false, 0, [b], []⟩ := by simp [put, hall.1]
          rw [e2, G5 n _ d _ _ hall.2, Gexp 5 (.inr (.inr rfl)) n _ _ _ (nd_head t) (fun h => by omega)]
          simp
          rfl
theorem G0 (l : List UInt8) : runG St.start l = (partsOf l).map outP := by
  have hp : partsOf l = partsR (isNeg l) (dropSign l) := rfl
  rw [hp]
  cases l with
  | nil => rfl
  | cons c t =>
    cases h : isSg c with
    | false =>
      have hd : dropSign (c :: t) = c :: t := by simp [dropSign, h]
      have hn : isNeg (c :: t) = false := by
        have h' := h
        unfold isSg at h'
        rw [Bool.or_eq_false_iff] at h'
        exact h'.2
      rw [hd, hn]
      exact G1 false 0 (.inl rfl) (c :: t) (fun _ c' t' e => by injection e with e1 _; rw [← e1]; exact h)
    | true =>
      have hd : dropSign (c :: t) = t := by simp [dropSign, h]
      rw [hd, runG_cons_some (n := 1) (by simp [St.start, nxt, h])]
      have e : put St.start c 1 = ⟨1, c == 45, false, 0, [], []⟩ := by simp [put, St.start, h, sg_not_dig h]
      rw [e]
      exact G1 _ 1 (.inr rfl) t (fun h => by omega)

/-- The number of the parts is the model's. -/
theorem outP_eq (p : Parts) : outP p = fromP p := by
  unfold outP modelN fromP
  by_cases h : fst0 (p.ip ++ p.fp) = (p.ip ++ p.fp).length
  · rw [if_pos h]
    have hz := (trimL_nil_iff _).2 h
    have h1 : trimL p.ip = [] := by
      cases e : trimL p.ip with
      | nil => rfl
      | cons c l => rw [trimL_append_not (by rw [e]; simp), e] at hz; simp at hz
    rw [trimL_append_nil h1] at hz
    have h2 : fracT p.ip p.fp = [] := by unfold fracT; rw [h1, hz]; rfl
    have h3 : intT p.ip p.fp = [] := by unfold intT; rw [h2, h1]; rfl
    rw [h2, h3]
    rfl
  · rw [if_neg h]
    have hne : trimL (p.ip ++ p.fp) ≠ [] := fun e => h ((trimL_nil_iff _).1 e)
    obtain ⟨e1, e2, e3⟩ := model_digits p.ip p.fp hne
    rw [e1, e2, e3]
    have hb : ((intT p.ip p.fp).isEmpty && (fracT p.ip p.fp).isEmpty) = false := by
      cases hq : ((intT p.ip p.fp).isEmpty && (fracT p.ip p.fp).isEmpty) with
      | false => rfl
      | true =>
        exfalso
        rw [Bool.and_eq_true, List.isEmpty_iff, List.isEmpty_iff] at hq
        obtain ⟨q1, q2⟩ := hq
        unfold intT at q1
        rw [q2] at q1
        have q3 : trimR (trimL p.ip) = [] := q1
        rw [trimR_nil_iff, trimL_idem] at q3
        unfold fracT at q2
        rw [q3] at q2
        have q4 : trimR (trimL p.fp) = [] := q2
        rw [trimR_nil_iff, trimL_idem] at q4
        exact hne (by rw [trimL_append_nil q3, q4])
    unfold mkN
    rw [hb]
    rfl
/-- The model's answer is the reader's. -/
theorem model_eq_read (l : List UInt8) : modelB l = readB l := by
  unfold modelB readB
  rw [G0]
  cases partsOf l with
  | none => rfl
  | some p => simp [outP_eq]

end Go.Proofs.Qxb6601790aDoor.Num
