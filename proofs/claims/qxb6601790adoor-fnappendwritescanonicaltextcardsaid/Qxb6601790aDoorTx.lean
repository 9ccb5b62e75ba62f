/-
  Plain laws of a number's text: what it is, and that reading it gives the number back. No program in sight.
-/
import Derived.Test.Qxb6601790aDoorRg
namespace Go.Proofs.Qxb6601790aDoor.Num
open Go.Lib (decDigits)

/-- An exponent's text: the sign, then the digits. -/
def sgnText (e : Int) : List UInt8 := (if e < 0 then 45 else 43) :: decDigits e.natAbs
/-- The number that a point's text writes. -/
def bigOf (b : List UInt8) : Int := sgn (isNeg b) (val (dropSign b))
def pv (n : Nm) : Int := if n.bp.isEmpty then n.pt else bigOf n.bp
def sciOf (n : Nm) : Bool := !n.bp.isEmpty || decide (n.pt < -5) || decide (21 < n.pt)
def body (d : List UInt8) (sci : Bool) (p : Int) : List UInt8 :=
  if sci then d.take 1 ++ (if 1 < d.length then 46 :: d.drop 1 else []) ++ 101 :: sgnText (p - 1)
  else if p ≤ 0 then 48 :: 46 :: (List.replicate (-p).toNat 48 ++ d)
  else if (d.length : Int) ≤ p then d ++ List.replicate (p - d.length).toNat 48
  else d.take p.toNat ++ 46 :: d.drop p.toNat
def sgB1 (neg : Bool) : List UInt8 := if neg then [45] else []
def canonT (neg : Bool) (d : List UInt8) (sci : Bool) (p : Int) : List UInt8 := if d.isEmpty then [48] else sgB1 neg ++ body d sci p
def text (n : Nm) : List UInt8 := canonT n.neg (n.ip ++ n.fp) (sciOf n) (pv n)

/-! ### Digits and signs -/
theorem dig_not_minus {c : UInt8} (h : isDig c = true) : (c == 45) = false := by
  have := dig_not_sg h
  unfold isSg at this
  rw [Bool.or_eq_false_iff] at this
  exact this.2
theorem dropSign_dig {l : List UInt8} (h : ∀ c t, l = c :: t → isDig c = true) : dropSign l = l ∧ isNeg l = false := by
  cases l with
  | nil => exact ⟨rfl, rfl⟩
  | cons c t =>
    have hc := h c t rfl
    exact ⟨by simp [dropSign, dig_not_sg hc], dig_not_minus hc⟩
theorem dropSign_all {l : List UInt8} (h : allD l = true) : dropSign l = l ∧ isNeg l = false :=
  dropSign_dig fun c t e => by rw [e, allD_cons, Bool.and_eq_true] at h; exact h.1
theorem sign_drop (neg : Bool) {l : List UInt8} (h : ∀ c t, l = c :: t → isDig c = true) : dropSign (sgB1 neg ++ l) = l ∧ isNeg (sgB1 neg ++ l) = neg := by
  cases neg with
  | true => exact ⟨rfl, rfl⟩
  | false => exact dropSign_dig h
theorem bigOf_sign (en : Bool) (X : Nat) : bigOf (sgB1 en ++ decDigits X) = sgn en X := by
  have h := sign_drop en (l := decDigits X) (fun c t e => by
    have := decDigits_allD X
    rw [e, allD_cons, Bool.and_eq_true] at this
    exact this.1)
  unfold bigOf
  rw [h.1, h.2, val_decDigits]
theorem sgnText_drop (e : Int) : dropSign (sgnText e) = decDigits e.natAbs ∧ isNeg (sgnText e) = decide (e < 0) := by
  unfold sgnText
  by_cases h : e < 0
  · rw [if_pos h, decide_eq_true h]; exact ⟨rfl, rfl⟩
  · rw [if_neg h, decide_eq_false h]; exact ⟨rfl, rfl⟩

/-! ### Parts of a text that is put together -/
theorem dg_all {l : List UInt8} (h : allD l = true) : dg l = l ∧ nd l = [] := by
  induction l with
  | nil => exact ⟨rfl, rfl⟩
  | cons c l ih =>
    rw [allD_cons, Bool.and_eq_true] at h
    have := ih h.2
    unfold dg nd at this
    unfold dg nd
    rw [List.takeWhile, List.dropWhile, h.1]
    exact ⟨by simp [this.1], this.2⟩
theorem dg_app {l : List UInt8} (h : allD l = true) {c : UInt8} (hc : isDig c = false) (t : List UInt8) : dg (l ++ c :: t) = l ∧ nd (l ++ c :: t) = c :: t := by
  induction l with
  | nil => exact ⟨by simp [dg, hc], by simp [nd, hc]⟩
  | cons b l ih =>
    rw [allD_cons, Bool.and_eq_true] at h
    have := ih h.2
    unfold dg nd at this
    unfold dg nd
    rw [List.cons_append, List.takeWhile, List.dropWhile, h.1]
    exact ⟨by simp [this.1], this.2⟩
theorem isE_false {l : List UInt8} (h : l ≠ []) : l.isEmpty = false := by cases l with | nil => exact absurd rfl h | cons _ _ => rfl
theorem parts_int (n : Bool) {ip : List UInt8} (h : allD ip = true) (hne : ip ≠ []) : partsR n ip = some ⟨n, ip, [], []⟩ := by
  unfold partsR
  rw [(dg_all h).1, (dg_all h).2, isE_false hne]
  rfl
theorem parts_frac (n : Bool) {ip fp : List UInt8} (h : allD ip = true) (hne : ip ≠ []) (hf : allD fp = true) : partsR n (ip ++ 46 :: fp) = some ⟨n, ip, fp, []⟩ := by
  have h1 := dg_app h (c := 46) (by decide) fp
  unfold partsR
  rw [h1.1, h1.2, isE_false hne]
  have h2 : fracOf (46 :: fp) = (fp, []) := by
    show (if (46 : UInt8) == 46 then (dg fp, nd fp) else ([], 46 :: fp)) = _
    rw [(dg_all hf).1, (dg_all hf).2]
    rfl
  rw [h2]
  rfl
theorem exp_some {ex : List UInt8} (h1 : dropSign ex ≠ []) (h2 : allD (dropSign ex) = true) : expOf (101 :: ex) = some ex := by
  show (if isEx 101 && !(dropSign ex).isEmpty && allD (dropSign ex) then some ex else none) = _
  rw [isE_false h1, h2]
  rfl
theorem parts_sci1 (n : Bool) {ip ex : List UInt8} (h : allD ip = true) (hne : ip ≠ []) (h1 : dropSign ex ≠ []) (h2 : allD (dropSign ex) = true) : partsR n (ip ++ 101 :: ex) = some ⟨n, ip, [], ex⟩ := by
  have h3 := dg_app h (c := 101) (by decide) ex
  unfold partsR
  rw [h3.1, h3.2, isE_false hne]
  have h4 : fracOf (101 :: ex) = ([], 101 :: ex) := rfl
  rw [h4, exp_some h1 h2]
  rfl
theorem parts_sci2 (n : Bool) {ip fp ex : List UInt8} (h : allD ip = true) (hne : ip ≠ []) (hf : allD fp = true) (h1 : dropSign ex ≠ []) (h2 : allD (dropSign ex) = true) : partsR n (ip ++ 46 :: (fp ++ 101 :: ex)) = some ⟨n, ip, fp, ex⟩ := by
  have h3 := dg_app h (c := 46) (by decide) (fp ++ 101 :: ex)
  unfold partsR
  rw [h3.1, h3.2, isE_false hne]
  have h4 : fracOf (46 :: (fp ++ 101 :: ex)) = (fp, 101 :: ex) := by
    show (if (46 : UInt8) == 46 then (dg (fp ++ 101 :: ex), nd (fp ++ 101 :: ex)) else ([], 46 :: (fp ++ 101 :: ex))) = _
    rw [(dg_app hf (c := 101) (by decide) ex).1, (dg_app hf (c := 101) (by decide) ex).2]
    rfl
  rw [h4, exp_some h1 h2]
  rfl

/-! ### Digits that neither begin nor end with a zero -/
structure Tight (d : List UInt8) : Prop where
  ne : d ≠ []
  all : allD d = true
  left : trimL d = d
  right : trimR d = d
theorem trimR_idem (l : List UInt8) : trimR (trimR l) = trimR l := by
  unfold trimR
  rw [List.reverse_reverse]
  have := trimL_idem l.reverse
  unfold trimL at this
  rw [this]
theorem trimL_trimR {l : List UInt8} (h : trimL l = l) : trimL (trimR l) = trimR l := by
  cases e : trimR l with
  | nil => rfl
  | cons c t =>
    have h1 := trimR_take l
    rw [e] at h1
    cases l with
    | nil => simp at h1
    | cons b u =>
      rw [List.length_cons, List.take_succ_cons] at h1
      injection h1 with h2 _
      rw [← h2] at h
      exact trimL_cons_ne (Qxb6601790aDoor.trimL_head h) t
theorem trimR_allD {l : List UInt8} (h : allD l = true) : allD (trimR l) = true := by rw [trimR_take]; exact allD_take h _
theorem trimL_not_of {d : List UInt8} (h : trimL d = d) (hne : d ≠ []) (r : List UInt8) : trimL (d ++ r) = d ++ r := by rw [trimL_append_not (by rw [h]; exact hne), h]
theorem trimR_zeros (l : List UInt8) (n : Nat) : trimR (l ++ List.replicate n 48) = trimR l := by
  refine trimR_append_nil l _ ?_
  rw [trimR_nil_iff, trimL_nil_all]
  intro c hc
  exact (List.mem_replicate.1 hc).2
theorem trimL_zeros (n : Nat) (l : List UInt8) : trimL (List.replicate n 48 ++ l) = trimL l := by
  refine trimL_append_nil ?_ l
  rw [trimL_nil_all]
  intro c hc
  exact (List.mem_replicate.1 hc).2
theorem Tight.head {d : List UInt8} (h : Tight d) {c : UInt8} {t : List UInt8} (e : d = c :: t) : c ≠ 48 := Qxb6601790aDoor.trimL_head (h.left.trans e)
theorem Tight.take {d : List UInt8} (h : Tight d) {k : Nat} (hk : 0 < k) : trimL (d.take k) = d.take k ∧ d.take k ≠ [] := by
  cases e : d with
  | nil => exact absurd e h.ne
  | cons c t =>
    cases k with
    | zero => omega
    | succ k =>
      rw [List.take_succ_cons]
      exact ⟨trimL_cons_ne (h.head e) _, by simp⟩
theorem Tight.drop {d : List UInt8} (h : Tight d) {k : Nat} (hk : k < d.length) : trimR (d.drop k) = d.drop k ∧ d.drop k ≠ [] := by
  have hne : d.drop k ≠ [] := by
    intro e
    have := congrArg List.length e
    rw [List.length_drop] at this
    simp at this
    omega
  refine ⟨?_, hne⟩
  have h1 := h.right
  conv at h1 => lhs; rw [← List.take_append_drop k d]
  have h2 : trimR (d.drop k) ≠ [] := by
    intro e
    rw [trimR_append_nil _ _ e] at h1
    have h3 := trimR_le (d.take k)
    rw [h1, List.length_take] at h3
    omega
  rw [trimR_append_not _ _ h2] at h1
  have h4 : d.take k ++ trimR (d.drop k) = d.take k ++ d.drop k := by rw [h1, List.take_append_drop]
  exact List.append_cancel_left h4

/-! ### The point -/
/-- Point and text of a number whose exponent is written in full. -/
def ptOf (p : Int) : Int × List UInt8 := if (p - 1).natAbs < 1000000000000000000 then (p, []) else (0, sgB1 (decide (p - 1 < 0)) ++ decDigits p.natAbs)
theorem pow18' : (10 : Nat) ^ 18 = 1000000000000000000 := by decide
theorem trim_dec (u : Nat) : val (trimL (decDigits u)) = u ∧ ((trimL (decDigits u)).length ≤ 18 ↔ u < 1000000000000000000) := by
  by_cases h : u = 0
  · subst h
    have e : trimL (decDigits 0) = [] := by rw [Go.Lib.decDigits_one (by decide)]; rfl
    rw [e]
    simp [val]
  · obtain ⟨c, l, e, hc⟩ := decDigits_head u (by omega)
    have e1 : trimL (decDigits u) = decDigits u := by rw [e]; exact trimL_cons_ne hc l
    rw [e1]
    refine ⟨val_decDigits u, fun h1 => ?_, fun h1 => ?_⟩
    · have h2 := val_lt (decDigits_allD u)
      rw [val_decDigits] at h2
      have h3 : 10 ^ (decDigits u).length ≤ 10 ^ 18 := Nat.pow_le_pow_right (by decide) h1
      rw [pow18'] at h3
      omega
    · exact decDigits_len_le u 18 (by rw [pow18']; exact h1) (by decide)
theorem addExp_text (p : Int) : addExp (sgnText (p - 1)) 1 = ptOf p := by
  unfold addExp addE ptOf
  rw [(sgnText_drop (p - 1)).1, (sgnText_drop (p - 1)).2, (trim_dec _).1]
  by_cases h : (p - 1).natAbs < 1000000000000000000
  · rw [if_pos ((trim_dec _).2.2 h), if_pos h]
    refine Prod.ext ?_ rfl
    show sgn (decide (p - 1 < 0)) ((p - 1).natAbs : Int) + 1 = p
    unfold sgn
    by_cases hn : p - 1 < 0
    · rw [decide_eq_true hn, if_pos rfl]; omega
    · rw [decide_eq_false hn, if_neg (by decide)]; omega
  · rw [if_neg (fun h' => h ((trim_dec _).2.1 h')), if_neg h]
    refine Prod.ext rfl ?_
    show _ ++ decDigits ((((p - 1).natAbs : Nat) : Int) + sgn (decide (p - 1 < 0)) 1).toNat = _
    unfold sgB1
    congr 2
    unfold sgn
    by_cases hn : p - 1 < 0
    · rw [decide_eq_true hn, if_pos rfl]; omega
    · rw [decide_eq_false hn, if_neg (by decide)]; omega
theorem addExp_nil (sh : Int) : addExp [] sh = (sh, []) := by
  unfold addExp addE
  refine Prod.ext ?_ rfl
  show (0 : Int) + sh = sh
  omega

/-! ### Reading a text -/
/-- What is read out of a text of digits d and point p. -/
structure Back (n : Bool) (d : List UInt8) (q : Int × List UInt8) (m : Nm) : Prop where
  neg : m.neg = n
  dig : m.ip ++ m.fp = d
  pt : m.pt = q.1
  bp : m.bp = q.2
theorem body_dig {d : List UInt8} (h : Tight d) (sci : Bool) (p : Int) : ∀ c t, body d sci p = c :: t → isDig c = true := by
  intro c t e
  cases hd : d with
  | nil => exact absurd hd h.ne
  | cons b u =>
    have hb : isDig b = true := allD_mem h.all (by rw [hd]; simp)
    unfold body at e
    rw [hd] at e
    split at e
    · simp at e
      rw [← e.1]; exact hb
    · split at e
      · injection e with e1 _
        rw [← e1]; decide
      · split at e
        · simp at e
          rw [← e.1]; exact hb
        · rename_i hp _
          cases hk : p.toNat with
          | zero => omega
          | succ k =>
            rw [hk] at e
            simp at e
            rw [← e.1]; exact hb
theorem read_of {l : List UInt8} {n : Bool} {r : List UInt8} {p : Parts} (h : dropSign l = r ∧ isNeg l = n) (hp : partsR n r = some p) : readB l = (fromP p, true) := by
  have e : partsOf l = partsR (isNeg l) (dropSign l) := rfl
  unfold readB
  rw [e, h.1, h.2, hp]
theorem sgnText_ok (e : Int) : dropSign (sgnText e) ≠ [] ∧ allD (dropSign (sgnText e)) = true := by
  rw [(sgnText_drop e).1]
  exact ⟨decDigits_ne_nil _, decDigits_allD _⟩
theorem read_canon (n : Bool) {d : List UInt8} (h : Tight d) (sci : Bool) (p : Int) : ∃ m, readB (canonT n d sci p) = (m, true) ∧ Back n d (if sci then ptOf p else (p, [])) m := by
  have hl : dropSign (canonT n d sci p) = body d sci p ∧ isNeg (canonT n d sci p) = n := by
    unfold canonT
    rw [isE_false h.ne]
    exact sign_drop n (body_dig h sci p)
  have hlen : 0 < d.length := List.length_pos_iff.2 h.ne
  cases sci with
  | true =>
    rw [if_pos rfl]
    have hx := sgnText_ok (p - 1)
    have h1 := h.take (k := 1) (by decide)
    have hl1 : (d.take 1).length = 1 := by rw [List.length_take]; omega
    by_cases hk : 1 < d.length
    · have h2 := h.drop hk
      have hb : body d true p = d.take 1 ++ 46 :: (d.drop 1 ++ 101 :: sgnText (p - 1)) := by unfold body; rw [if_pos rfl, if_pos hk]; simp
      rw [hb] at hl
      refine ⟨_, read_of hl (parts_sci2 n (allD_take h.all 1) h1.2 (allD_drop h.all 1) hx.1 hx.2), ?_⟩
      rw [fromP_both (by rw [h1.1]; exact h1.2) (by rw [h2.1]; exact h2.2), h1.1, h2.1, hl1, show ((1 : Nat) : Int) = 1 from rfl, addExp_text]
      exact ⟨rfl, List.take_append_drop 1 d, rfl, rfl⟩
    · have hb : body d true p = d.take 1 ++ 101 :: sgnText (p - 1) := by unfold body; rw [if_pos rfl, if_neg hk]; simp
      rw [hb] at hl
      refine ⟨_, read_of hl (parts_sci1 n (allD_take h.all 1) h1.2 hx.1 hx.2), ?_⟩
      have he : d.take 1 = d := List.take_of_length_le (by omega)
      rw [fromP_int (by rw [h1.1]; exact h1.2) rfl, h1.1, hl1, show ((1 : Nat) : Int) = 1 from rfl, addExp_text, he, h.right]
      exact ⟨rfl, List.append_nil d, rfl, rfl⟩
  | false =>
    rw [if_neg (by decide)]
    by_cases h0 : p ≤ 0
    · have hb : body d false p = [48] ++ 46 :: (List.replicate (-p).toNat 48 ++ d) := by unfold body; rw [if_neg (by decide), if_pos h0]; rfl
      rw [hb] at hl
      refine ⟨_, read_of hl (parts_frac n (by decide) (by simp) (by rw [allD_append, allD_rep _ _ isDig_zero, h.all]; rfl)), ?_⟩
      have e1 : trimL (List.replicate (-p).toNat 48 ++ d) = d := by rw [trimL_zeros, h.left]
      rw [fromP_frac (by decide) (by rw [e1, h.right]; exact h.ne), e1, h.right, addExp_nil]
      refine ⟨rfl, List.nil_append d, ?_, rfl⟩
      show -(((List.replicate (-p).toNat 48 ++ d).length : Int) - d.length) = p
      rw [List.length_append, List.length_replicate]
      omega
    · by_cases h1 : (d.length : Int) ≤ p
      · have hb : body d false p = d ++ List.replicate (p - d.length).toNat 48 := by unfold body; rw [if_neg (by decide), if_neg h0, if_pos h1]
        rw [hb] at hl
        have e1 := trimL_not_of h.left h.ne (List.replicate (p - d.length).toNat 48)
        have hne : d ++ List.replicate (p - d.length).toNat 48 ≠ [] := by simp [h.ne]
        refine ⟨_, read_of hl (parts_int n (by rw [allD_append, allD_rep _ _ isDig_zero, h.all]; rfl) hne), ?_⟩
        rw [fromP_int (by rw [e1]; exact hne) rfl, e1, trimR_zeros, h.right, addExp_nil]
        refine ⟨rfl, List.append_nil d, ?_, rfl⟩
        show ((d ++ List.replicate (p - d.length).toNat 48).length : Int) = p
        rw [List.length_append, List.length_replicate]
        omega
      · have hb : body d false p = d.take p.toNat ++ 46 :: d.drop p.toNat := by unfold body; rw [if_neg (by decide), if_neg h0, if_neg h1]
        rw [hb] at hl
        have e1 := h.take (k := p.toNat) (by omega)
        have e2 := h.drop (k := p.toNat) (by omega)
        refine ⟨_, read_of hl (parts_frac n (allD_take h.all _) e1.2 (allD_drop h.all _)), ?_⟩
        rw [fromP_both (by rw [e1.1]; exact e1.2) (by rw [e2.1]; exact e2.2), e1.1, e2.1, addExp_nil]
        refine ⟨rfl, List.take_append_drop _ d, ?_, rfl⟩
        show ((d.take p.toNat).length : Int) = p
        rw [List.length_take]
        omega

/-! ### A number that was read has a text that reads back -/
/-- A number as the reader leaves it. -/
structure Good (n : Nm) : Prop where
  tight : Tight (n.ip ++ n.fp)
  sci : sciOf n = (decide (pv n < -5) || decide (21 < pv n))
theorem text_back {n : Nm} (h : Good n) : ∃ m, readB (text n) = (m, true) ∧ text m = text n := by
  obtain ⟨m, h1, hb⟩ := read_canon n.neg h.tight (sciOf n) (pv n)
  refine ⟨m, h1, ?_⟩
  have hq : pv m = pv n ∧ sciOf m = sciOf n := by
    cases hs : sciOf n with
    | false =>
      have h2 : m.pt = pv n := by rw [hb.pt, hs]; rfl
      have h3 : m.bp = [] := by rw [hb.bp, hs]; rfl
      have h4 := h.sci
      rw [hs] at h4
      unfold sciOf
      unfold pv at h2 h4 ⊢
      rw [h3]
      refine ⟨h2, ?_⟩
      rw [h2]
      show (false || _ || _) = false
      rw [Bool.false_or]
      exact h4.symm
    | true =>
      have h2 : m.pt = (ptOf (pv n)).1 := by rw [hb.pt, hs]; rfl
      have h3 : m.bp = (ptOf (pv n)).2 := by rw [hb.bp, hs]; rfl
      have h4 := h.sci
      rw [hs] at h4
      generalize pv n = p at *
      unfold ptOf at h2 h3
      by_cases hp : (p - 1).natAbs < 1000000000000000000
      · rw [if_pos hp] at h2 h3
        have h2 : m.pt = p := h2
        have h3 : m.bp = [] := h3
        unfold sciOf pv
        rw [h3, h2]
        exact ⟨rfl, by rw [h4]; rfl⟩
      · rw [if_neg hp] at h2 h3
        have h3 : m.bp = sgB1 (decide (p - 1 < 0)) ++ decDigits p.natAbs := h3
        have h5 : m.bp ≠ [] := by rw [h3]; simp [decDigits_ne_nil]
        unfold sciOf pv
        rw [isE_false h5, h3, bigOf_sign]
        refine ⟨?_, rfl⟩
        show sgn (decide (p - 1 < 0)) (p.natAbs : Int) = p
        unfold sgn
        by_cases hn : p - 1 < 0
        · rw [decide_eq_true hn, if_pos rfl]; omega
        · rw [decide_eq_false hn, if_neg (by decide)]; omega
  unfold text
  rw [hb.neg, hb.dig, hq.1, hq.2]
theorem text_zero : text .zero = [48] := rfl
theorem read_zero : readB [48] = (.zero, true) := rfl

/-- What the reader's parts are like. -/
theorem partsOf_facts {l : List UInt8} {p : Parts} (h : partsOf l = some p) : allD p.ip = true ∧ allD p.fp = true ∧ allD (dropSign p.ex) = true ∧ p.ip.length + p.fp.length + p.ex.length ≤ l.length := by
  unfold partsOf at h
  split at h
  · exact absurd h (by simp)
  · have hd := dg_nd (dropSign l)
    have hl := congrArg List.length hd
    rw [List.length_append] at hl
    have hds := Qxb6601790aDoor.dropSign_le l
    have hfr : ∀ r : List UInt8, allD (fracOf r).1 = true ∧ (fracOf r).1.length + (fracOf r).2.length ≤ r.length := by
      intro r
      cases r with
      | nil => exact ⟨rfl, Nat.le_refl _⟩
      | cons c t =>
        have h2 := congrArg List.length (dg_nd t)
        rw [List.length_append] at h2
        cases hc : (c == 46) with
        | true =>
          have e : fracOf (c :: t) = (dg t, nd t) := by simp [fracOf, hc]
          rw [e]
          exact ⟨dg_allD t, by simp only [List.length_cons]; omega⟩
        | false =>
          have e : fracOf (c :: t) = ([], c :: t) := by simp [fracOf, hc]
          rw [e]
          exact ⟨rfl, by simp⟩
    obtain ⟨h3, h4⟩ := hfr (nd (dropSign l))
    generalize fracOf (nd (dropSign l)) = q at *
    have hex : ∀ ex, expOf q.2 = some ex → allD (dropSign ex) = true ∧ ex.length ≤ q.2.length := by
      intro ex he
      cases hq : q.2 with
      | nil => rw [hq] at he; injection he with he; rw [← he]; exact ⟨rfl, Nat.le_refl _⟩
      | cons c r =>
        rw [hq] at he
        have e : expOf (c :: r) = if isEx c && !(dropSign r).isEmpty && allD (dropSign r) then some r else none := rfl
        rw [e] at he
        split at he
        · rename_i hc
          injection he with he
          rw [Bool.and_eq_true] at hc
          rw [← he]
          exact ⟨hc.2, by simp⟩
        · exact absurd he (by simp)
    cases hx : expOf q.2 with
    | none => rw [hx] at h; exact absurd h (by simp)
    | some ex =>
      rw [hx] at h
      have h5 := hex ex hx
      have h := Option.some.inj h
      rw [← h]
      refine ⟨dg_allD _, h3, h5.1, ?_⟩
      show (dg (dropSign l)).length + q.1.length + ex.length ≤ l.length
      omega
theorem tight_LR {l : List UInt8} (h : allD l = true) (hne : trimL l ≠ []) : Tight (trimR (trimL l)) where
  ne := trimR_ne hne
  all := trimR_allD (trimL_allD h)
  left := trimL_trimR (trimL_idem l)
  right := trimR_idem _

/-- A number that fits the machine, its digits within the bound. -/
structure Fit (L : Nat) (n : Nm) : Prop where
  dig : n.ip.length + n.fp.length ≤ L
  big : n.bp.length ≤ L + 4
  bigD : allD (dropSign n.bp) = true
  lo : -9223372036854775807 ≤ n.pt
  hi : n.pt ≤ 9223372036854775807

theorem addExp_facts {ex : List UInt8} {sh : Int} (ha : allD (dropSign ex) = true) (h0 : -4194305 ≤ sh) (h1 : sh ≤ 4194305) (n : Bool) (a b : List UInt8) :
    sciOf ⟨n, a, b, (addExp ex sh).1, (addExp ex sh).2⟩ = (decide (pv ⟨n, a, b, (addExp ex sh).1, (addExp ex sh).2⟩ < -5) || decide (21 < pv ⟨n, a, b, (addExp ex sh).1, (addExp ex sh).2⟩)) ∧ (addExp ex sh).2.length ≤ ex.length + 2 ∧ allD (dropSign (addExp ex sh).2) = true ∧ -9223372036854775807 ≤ (addExp ex sh).1 ∧ (addExp ex sh).1 ≤ 9223372036854775807 := by
  have hlm : (trimL (dropSign ex)).length ≤ ex.length := by
    have := trimL_length (dropSign ex)
    have := dropSign_le ex
    omega
  by_cases hl : (trimL (dropSign ex)).length ≤ 18
  · have e : addExp ex sh = (sgn (isNeg ex) (val (trimL (dropSign ex))) + sh, []) := by unfold addExp addE; rw [if_pos hl]
    rw [e]
    have hv := val_le_18 (trimL_allD ha) hl
    refine ⟨rfl, by simp, rfl, ?_, ?_⟩
    · show -9223372036854775807 ≤ sgn (isNeg ex) (val (trimL (dropSign ex)) : Int) + sh
      unfold sgn
      split <;> omega
    · show sgn (isNeg ex) (val (trimL (dropSign ex)) : Int) + sh ≤ 9223372036854775807
      unfold sgn
      split <;> omega
  · have e : addExp ex sh = (0, sgB1 (isNeg ex) ++ decDigits ((val (trimL (dropSign ex)) : Int) + sgn (isNeg ex) sh).toNat) := by unfold addExp addE; rw [if_neg hl]; rfl
    have hb := trimL_big ha (by omega)
    have hsl := sum_len (mag := trimL (dropSign ex)) (d := sgn (isNeg ex) sh) (trimL_allD ha) hl (by unfold sgn; split <;> omega)
    rw [e]
    have hne : sgB1 (isNeg ex) ++ decDigits ((val (trimL (dropSign ex)) : Int) + sgn (isNeg ex) sh).toNat ≠ [] := by simp [decDigits_ne_nil]
    have hp : pv ⟨n, a, b, 0, sgB1 (isNeg ex) ++ decDigits ((val (trimL (dropSign ex)) : Int) + sgn (isNeg ex) sh).toNat⟩ = sgn (isNeg ex) (((val (trimL (dropSign ex)) : Int) + sgn (isNeg ex) sh).toNat : Nat) := by
      unfold pv
      rw [isE_false hne, bigOf_sign]
      rfl
    refine ⟨?_, ?_, ?_, by show (-9223372036854775807 : Int) ≤ 0; decide, by show (0 : Int) ≤ 9223372036854775807; decide⟩
    · rw [hp]
      unfold sciOf
      rw [isE_false hne]
      show true = _
      generalize isNeg ex = en
      generalize val (trimL (dropSign ex)) = v at *
      cases en with
      | true =>
        have : sgn true ((((v : Int) + sgn true sh).toNat : Nat) : Int) < -5 := by show -((((v : Int) + -sh).toNat : Nat) : Int) < -5; omega
        rw [decide_eq_true this]
        rfl
      | false =>
        have : 21 < sgn false ((((v : Int) + sgn false sh).toNat : Nat) : Int) := by show (21 : Int) < ((((v : Int) + sh).toNat : Nat) : Int); omega
        rw [decide_eq_true this, Bool.or_true]
    · show (sgB1 (isNeg ex) ++ decDigits _).length ≤ _
      rw [List.length_append]
      have : (sgB1 (isNeg ex)).length ≤ 1 := by unfold sgB1; split <;> simp
      omega
    · show allD (dropSign (sgB1 (isNeg ex) ++ decDigits _)) = true
      rw [(sign_drop (isNeg ex) (l := decDigits ((val (trimL (dropSign ex)) : Int) + sgn (isNeg ex) sh).toNat) (fun c t e => by
        have := decDigits_allD ((val (trimL (dropSign ex)) : Int) + sgn (isNeg ex) sh).toNat
        rw [e, allD_cons, Bool.and_eq_true] at this
        exact this.1)).1]
      exact decDigits_allD _
theorem made_good {L : Nat} {ng : Bool} {a b ex : List UInt8} {sh : Int} (ht : Tight (a ++ b)) (hab : a.length + b.length ≤ L) (hx : ex.length ≤ L) (ha : allD (dropSign ex) = true) (h0 : -4194305 ≤ sh) (h1 : sh ≤ 4194305) :
    Good ⟨ng, a, b, (addExp ex sh).1, (addExp ex sh).2⟩ ∧ Fit L ⟨ng, a, b, (addExp ex sh).1, (addExp ex sh).2⟩ := by
  obtain ⟨f1, f2, f3, f4, f5⟩ := addExp_facts ha h0 h1 ng a b
  exact ⟨⟨ht, f1⟩, ⟨hab, by show (addExp ex sh).2.length ≤ _; omega, f3, f4, f5⟩⟩

/-- A number that was read: zero, or a good one. -/
theorem read_good {L : Nat} {l : List UInt8} {n : Nm} (h : readB l = (n, true)) (hL : L ≤ 4194304) (hl : l.length ≤ L) : n = .zero ∨ (Good n ∧ Fit L n) := by
  unfold readB at h
  cases hp : partsOf l with
  | none => rw [hp] at h; exact absurd (congrArg Prod.snd h) (by simp)
  | some p =>
    rw [hp] at h
    have hn : fromP p = n := congrArg Prod.fst h
    obtain ⟨f1, f2, f3, f4⟩ := partsOf_facts hp
    obtain ⟨ng, ip, fp, ex⟩ := p
    have f1 : allD ip = true := f1
    have f2 : allD fp = true := f2
    have f3 : allD (dropSign ex) = true := f3
    have f4 : ip.length + fp.length + ex.length ≤ l.length := f4
    have l1 := trimL_length ip
    have l2 := trimL_length fp
    have l3 := trimR_le (trimL fp)
    have l4 := trimR_le (trimL ip)
    have l5 := trimR_le fp
    by_cases h1 : trimL ip = []
    · by_cases h2 : trimR (trimL fp) = []
      · left; rw [← hn]; exact fromP_zero h1 h2
      · right
        rw [← hn, fromP_frac h1 h2]
        have h3 : trimL fp ≠ [] := fun e => h2 (by rw [e]; rfl)
        exact made_good (tight_LR f2 h3) (by simp; omega) (by omega) f3 (by omega) (by omega)
    · right
      by_cases h2 : trimR fp = []
      · rw [← hn, fromP_int h1 h2]
        exact made_good (by rw [List.append_nil]; exact tight_LR f1 h1) (by simp; omega) (by omega) f3 (by omega) (by omega)
      · rw [← hn, fromP_both h1 h2]
        refine made_good ⟨by simp [h1], ?_, ?_, ?_⟩ (by omega) (by omega) f3 (by omega) (by omega)
        · rw [allD_append, trimL_allD f1, trimR_allD f2]; rfl
        · exact trimL_not_of (trimL_idem ip) h1 _
        · rw [trimR_append_not _ _ (by rw [trimR_idem]; exact h2), trimR_idem]

/-- How long a text may be. -/
theorem sgnText_len {L : Nat} (n : Nm) (h : Fit L n) : (sgnText (pv n - 1)).length ≤ n.bp.length + 21 := by
  have hv : (pv n - 1).natAbs < 10 ^ (n.bp.length + 20) := by
    have hp : 10 ^ (n.bp.length + 20) = 10 ^ n.bp.length * 100000000000000000000 := by rw [Nat.pow_add]
    have h1 : 0 < 10 ^ n.bp.length := Nat.pow_pos (by decide)
    have h2 := val_lt h.bigD
    have h3 : 10 ^ (dropSign n.bp).length ≤ 10 ^ n.bp.length := Nat.pow_le_pow_right (by decide) (dropSign_le n.bp)
    have h4 := h.lo
    have h5 := h.hi
    rw [hp]
    unfold pv
    cases n.bp.isEmpty with
    | true =>
      show (n.pt - 1).natAbs < _
      generalize 10 ^ n.bp.length = T at *
      omega
    | false =>
      show (bigOf n.bp - 1).natAbs < _
      unfold bigOf sgn
      generalize 10 ^ n.bp.length = T at *
      generalize val (dropSign n.bp) = v at *
      split <;> omega
  have := decDigits_len_le _ _ hv (by omega)
  unfold sgnText
  rw [List.length_cons]
  omega
theorem text_len (n : Nm) (h : Fit 1048576 n) : (text n).length ≤ 2097300 := by
  have h1 := sgnText_len n h
  have h2 := h.big
  have h3 := h.dig
  have h4 : (n.ip ++ n.fp).length ≤ 1048576 := by rw [List.length_append]; exact h3
  unfold text canonT
  split
  · simp
  · rw [List.length_append]
    have hs : (sgB1 n.neg).length ≤ 1 := by unfold sgB1; split <;> simp
    have hb : (body (n.ip ++ n.fp) (sciOf n) (pv n)).length ≤ 2097299 := by
      unfold body
      split
      · simp only [List.length_append, List.length_cons, List.length_take]
        rw [List.length_append] at h4
        split
        · simp only [List.length_cons, List.length_drop, List.length_append]; omega
        · simp only [List.length_nil]; omega
      · rename_i hsc
        unfold sciOf at hsc
        simp only [Bool.or_eq_true, decide_eq_true_eq, Bool.not_eq_true', not_or] at hsc
        have hpv : pv n = n.pt := by
          unfold pv
          have := hsc.1.1
          simp only [Bool.not_eq_false] at this
          rw [this]; rfl
        rw [hpv]
        split
        · simp only [List.length_cons, List.length_append, List.length_replicate] at h4 ⊢; omega
        · split
          · simp only [List.length_append, List.length_replicate] at h4 ⊢; omega
          · simp only [List.length_append, List.length_cons, List.length_take, List.length_drop] at h4 ⊢; omega
    omega
theorem text_ne (n : Nm) : text n ≠ [] := by
  unfold text canonT
  split
  · simp
  · rename_i h
    have hd : n.ip ++ n.fp ≠ [] := by simpa using h
    have hb : body (n.ip ++ n.fp) (sciOf n) (pv n) ≠ [] := by
      unfold body
      split
      · simp
      · split
        · simp
        · split
          · exact fun e => hd (List.append_eq_nil_iff.1 e).1
          · simp
    simp [hb]
/-- Within eighteen digits the point comes back as it was. -/
theorem ptOf_small {p : Int} (h0 : -999999999999999998 ≤ p) (h1 : p ≤ 1000000000000000000) : ptOf p = (p, []) := by
  unfold ptOf
  rw [if_pos (by omega)]

end Go.Proofs.Qxb6601790aDoor.Num
