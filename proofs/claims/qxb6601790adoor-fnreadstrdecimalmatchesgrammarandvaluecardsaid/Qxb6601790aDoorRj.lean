/-
  The walk of zzReadModel: what its loops keep.
-/
import Derived.Test.Qxb6601790aDoorRh
import Derived.Deep.CutBlock
import Derived.Deep.DeepAppendRoom
import Derived.Maps.AppendAt
namespace Go.Proofs.Qxb6601790aDoor
open Go.RowKit Num
open Go.Lib (decDigits)

def mdV (q : Nm × Bool) : Value := .tuple #[.bool q.2, .bool q.1.neg, .string ⟨q.1.ip.toArray⟩, .string ⟨q.1.fp.toArray⟩, .int .i64 q.1.pt, .string ⟨q.1.bp.toArray⟩]
theorem mdV_no {l : List UInt8} (h : runG St.start l = none) : Ending.returned (.tuple #[.bool false, .bool false, .string ⟨#[]⟩, .string ⟨#[]⟩, .int .i64 0, .string ⟨#[]⟩]) = .returned (mdV (modelB l)) := by
  unfold modelB; rw [h]; rfl
theorem mdV_yes {l : List UInt8} {n : Nm} (h : runG St.start l = some n) : Ending.returned (.tuple #[.bool true, .bool n.neg, .string ⟨n.ip.toArray⟩, .string ⟨n.fp.toArray⟩, .int .i64 n.pt, .string ⟨n.bp.toArray⟩]) = .returned (mdV (modelB l)) := by
  unfold modelB; rw [h]; rfl

def nxI (st : Nat) (c : UInt8) : Int := match nxt st c with
  | none => -1
  | some n => n
def pneg (st : Nat) (ng : Bool) (c : UInt8) : Bool := if st = 0 ∧ isSg c = true then c == 45 else ng
def pen (st : Nat) (en : Bool) (c : UInt8) : Bool := if st = 6 ∧ isSg c = true then c == 45 else en
theorem nxt_le {st : Nat} {c : UInt8} {n : Nat} (h : nxt st c = some n) : n ≤ 8 := by
  unfold nxt at h
  split at h <;> (repeat' split at h) <;> (first | (injection h with h; omega) | exact absurd h (by simp))

/-- The switch, by the classes of the byte. -/
def nxB : Nat → Bool → Bool → Bool → Bool → Int
  | 0, d, s, _, p => if s then 1 else if d then 2 else if p then 4 else -1
  | 1, d, _, _, p => if d then 2 else if p then 4 else -1
  | 2, d, _, x, p => if d then 2 else if p then 3 else if x then 6 else -1
  | 3, d, _, x, _ => if d then 5 else if x then 6 else -1
  | 4, d, _, _, _ => if d then 5 else -1
  | 5, d, _, x, _ => if d then 5 else if x then 6 else -1
  | 6, d, s, _, _ => if s then 7 else if d then 8 else -1
  | _, d, _, _, _ => if d then 8 else -1
theorem switch_eq {c : UInt8} {st : Nat} {ng en bd bs bx bp : Bool} (h1 : isDig c = bd) (h2 : isSg c = bs) (h3 : isEx c = bx) (h4 : (c == 46) = bp) :
    Value.bool (if st = 0 ∧ bs = true then c == 45 else ng) = .bool (pneg st ng c) ∧ Value.bool (if st = 6 ∧ bs = true then c == 45 else en) = .bool (pen st en c) ∧ Value.int .i64 (nxB st bd bs bx bp) = .int .i64 (nxI st c) := by
  subst h1 h2 h3 h4
  refine ⟨rfl, rfl, ?_⟩
  congr 1
  unfold nxB nxI nxt
  split <;> (repeat' split) <;> (first | omega | (simp_all; done) | (simp_all; omega))

/-- A row of bytes that the call owns, its capacity told. -/
abbrev OwnAt (w : World) (B g cap : Nat) (xs : List UInt8) : Prop := w.ownsRow B 5 1 (.slice (some ⟨g, 0, none⟩) xs.length cap) xs.length (bv xs)
theorem OwnAt.row {w : World} {B g cap : Nat} {xs : List UInt8} (h : OwnAt w B g cap xs) : Row w g xs := by
  rcases Nat.eq_zero_or_pos xs.length with h0 | h0
  · exact ⟨fun j hj => by omega, fun j hj => by omega⟩
  · obtain ⟨g', cap', hv, _, _, hr, _⟩ := row_of_owns h h0
    injection hv with hv _ _
    injection hv with hv
    injection hv with hv _ _
    subst hv
    exact hr
theorem OwnAt.put {w : World} {B g cap n : Nat} {xs : List UInt8} {c : UInt8} (hn : n = xs.length) (h : w.ownsRow B 5 1 (.slice (some ⟨g, 0, none⟩) (n + 1) cap) (n + 1) (bv xs ++ [.int .u8 (c.toNat : Int)])) : OwnAt w B g cap (xs ++ [c]) := by
  subst hn
  unfold OwnAt
  rw [List.length_append, bv_append]
  exact h
theorem OwnAt.lt {w : World} {B g cap : Nat} {xs : List UInt8} (h : OwnAt w B g cap xs) : g < w.heap.size := (World.ownsRow.lt h g rfl).2

/-- What the first loop keeps. -/
structure Lp (s : ByteArray) (w : World) (k : Nat) (σ : St) (wr : World) : Prop where
  hk : k ≤ s.size
  st : σ.st ≤ 8
  li : σ.li ≤ k
  ml : σ.mant.length ≤ k
  el : σ.exp.length ≤ k
  md : allD σ.mant = true
  ed : allD σ.exp = true
  run : runG St.start s.data.toList = runG σ (s.data.toList.drop k)
  om : OwnAt wr w.heap.size w.heap.size s.size σ.mant
  oe : OwnAt wr w.heap.size (w.heap.size + 1) s.size σ.exp
  bel : Below w.heap.size w wr

def mk0 (s : ByteArray) : Obj := .cells (madeCells #[.int .u8 0] s.size) 5
theorem lp_start (s : ByteArray) (w : World) (hs : s.size ≤ 4194304) : Lp s w 0 St.start ((w.alloc (mk0 s)).alloc (mk0 s)) where
  hk := Nat.zero_le _
  st := Nat.zero_le _
  li := Nat.le_refl _
  ml := Nat.le_refl _
  el := Nat.le_refl _
  md := rfl
  ed := rfl
  run := by rw [List.drop_zero]
  om := (World.ownsRow_made w (madeCells #[.int .u8 0] s.size) s.size (Nat.le_refl _) (by unfold maxLen; omega) (by simp [madeCells])).alloc _
  oe := by
    have h := World.ownsRow_made (base := w.heap.size) (e := 5) (size := 1) (w.alloc (mk0 s)) (madeCells #[.int .u8 0] s.size) s.size (by simp) (by unfold maxLen; omega) (by simp [madeCells])
    have e : (w.alloc (mk0 s)).heap.size = w.heap.size + 1 := by simp
    rw [e] at h
    exact h
  bel := ((Below.refl _ _).alloc (Nat.le_refl _) _).alloc (by simp) _

theorem lp_run {s : ByteArray} {w : World} {k : Nat} {σ : St} {wr : World} (h : Lp s w k σ wr) (hk : k < s.size) {n : Nat} (hn : nxt σ.st s[k] = some n) : runG St.start s.data.toList = runG (put σ s[k] n) (s.data.toList.drop (k + 1)) := by
  rw [h.run, drop_at s k hk, runG_cons_some hn]
theorem lp_fail {s : ByteArray} {w : World} {k : Nat} {σ : St} {wr : World} (h : Lp s w k σ wr) (hk : k < s.size) (hn : nxt σ.st s[k] = none) : runG St.start s.data.toList = none := by
  rw [h.run, drop_at s k hk, runG_cons_none hn]
theorem lp_mant {s : ByteArray} {w : World} {k st : Nat} {ng en : Bool} {li : Nat} {m x : List UInt8} {wr w1 : World} (h : Lp s w k ⟨st, ng, en, li, m, x⟩ wr) (hk : k < s.size) {n : Nat} (hn : nxt st s[k] = some n) (hd : isDig s[k] = true) (h25 : n = 2 ∨ n = 5) (li' : Nat) (hli : li' = if n = 2 then li + 1 else li) (o : Obj)
    (hown : w1.ownsRow w.heap.size 5 1 (.slice (some ⟨w.heap.size, 0, none⟩) (m.length + 1) s.size) (m.length + 1) (bv m ++ [.int .u8 (s[k].toNat : Int)])) (hg : (wr.alloc o).grownBy w1 (some w.heap.size)) :
    Lp s w (k + 1) ⟨n, pneg st ng s[k], pen st en s[k], li', m ++ [s[k]], x⟩ w1 where
  hk := hk
  st := nxt_le hn
  li := by have := h.li; show li' ≤ k + 1; have : li ≤ k := this; rw [hli]; split <;> omega
  ml := by have := h.ml; show (m ++ [s[k]]).length ≤ k + 1; have : m.length ≤ k := this; rw [List.length_append]; simp; omega
  el := Nat.le_succ_of_le h.el
  md := by show allD (m ++ [s[k]]) = true; rw [allD_append, h.md, allD_cons, hd]; rfl
  ed := h.ed
  run := by
    rw [lp_run h hk hn]
    congr 1
    unfold put
    have h' : ¬ (isDig s[k] = true ∧ ¬ (n = 2 ∨ n = 5)) := fun q => q.2 h25
    have h'' : isDig s[k] = true ∧ (n = 2 ∨ n = 5) := ⟨hd, h25⟩
    rw [if_neg h', if_pos h'']
    have e : (if isDig s[k] = true ∧ n = 2 then li + 1 else li) = li' := by rw [hli]; simp [hd]
    rw [e]
    rfl
  om := OwnAt.put rfl hown
  oe := World.ownsRow.kept (World.ownsRow.alloc h.oe o) hg (.inr (by simp [Value.ownBlock]))
  bel := (h.bel.alloc (h.bel.size) o).grown hg (by have := h.bel.size; simp; omega) (by intro q hq; injection hq with hq; omega)
theorem lp_exp {s : ByteArray} {w : World} {k st : Nat} {ng en : Bool} {li : Nat} {m x : List UInt8} {wr w1 : World} (h : Lp s w k ⟨st, ng, en, li, m, x⟩ wr) (hk : k < s.size) {n : Nat} (hn : nxt st s[k] = some n) (hd : isDig s[k] = true) (h2 : n ≠ 2) (h5 : n ≠ 5) (o : Obj)
    (hown : w1.ownsRow w.heap.size 5 1 (.slice (some ⟨w.heap.size + 1, 0, none⟩) (x.length + 1) s.size) (x.length + 1) (bv x ++ [.int .u8 (s[k].toNat : Int)])) (hg : (wr.alloc o).grownBy w1 (some (w.heap.size + 1))) :
    Lp s w (k + 1) ⟨n, pneg st ng s[k], pen st en s[k], li, m, x ++ [s[k]]⟩ w1 where
  hk := hk
  st := nxt_le hn
  li := Nat.le_succ_of_le h.li
  ml := Nat.le_succ_of_le h.ml
  el := by have := h.el; show (x ++ [s[k]]).length ≤ k + 1; have : x.length ≤ k := this; rw [List.length_append]; simp; omega
  md := h.md
  ed := by show allD (x ++ [s[k]]) = true; rw [allD_append, h.ed, allD_cons, hd]; rfl
  run := by
    rw [lp_run h hk hn]
    congr 1
    unfold put
    have h' : isDig s[k] = true ∧ ¬ (n = 2 ∨ n = 5) := ⟨hd, by omega⟩
    have h'' : ¬ (isDig s[k] = true ∧ (n = 2 ∨ n = 5)) := fun q => by omega
    have h''' : ¬ (isDig s[k] = true ∧ n = 2) := fun q => h2 q.2
    rw [if_pos h', if_neg h'', if_neg h''']
    rfl
  om := World.ownsRow.kept (World.ownsRow.alloc h.om o) hg (.inr (by simp [Value.ownBlock]))
  oe := OwnAt.put rfl hown
  bel := (h.bel.alloc (h.bel.size) o).grown hg (by have := h.bel.size; simp; omega) (by intro q hq; injection hq with hq; omega)
theorem lp_skip {s : ByteArray} {w : World} {k st : Nat} {ng en : Bool} {li : Nat} {m x : List UInt8} {wr : World} (h : Lp s w k ⟨st, ng, en, li, m, x⟩ wr) (hk : k < s.size) {n : Nat} (hn : nxt st s[k] = some n) (hd : isDig s[k] = false) :
    Lp s w (k + 1) ⟨n, pneg st ng s[k], pen st en s[k], li, m, x⟩ wr where
  hk := hk
  st := nxt_le hn
  li := Nat.le_succ_of_le h.li
  ml := Nat.le_succ_of_le h.ml
  el := Nat.le_succ_of_le h.el
  md := h.md
  ed := h.ed
  run := by
    rw [lp_run h hk hn]
    congr 1
    unfold put
    rw [hd]
    have h1 : ∀ p : Prop, ¬ (false = true ∧ p) := fun p q => absurd q.1 (by decide)
    rw [if_neg (h1 _), if_neg (h1 _), if_neg (h1 _)]
    rfl
  om := h.om
  oe := h.oe
  bel := h.bel
/-- At the end. -/
theorem lp_end {s : ByteArray} {w : World} {σ : St} {wr : World} {k : Nat} (h : Lp s w k σ wr) (hk : ¬ k < s.size) : runG St.start s.data.toList = outOf σ := by
  rw [h.run, drop_all s k hk]; rfl

theorem make16 (s : ByteArray) (hs : s.size ≤ 4194304) (w : World) : (Instr.makeSlice 33 (.int .i64 0) (.int .i64 (s.size : Int))).run Tryd.prog w = .ok (.slice (some ⟨w.heap.size, 0, none⟩) 0 s.size) (w.alloc (mk0 s)) := by
  obtain ⟨i, hi, hz, hsz, hby⟩ := info_parts info5
  have h := run_make (P := Tryd.prog) w 33 5 i (.int .u8 0) Tryd.underlying33 hi hz .i64 .i64 0 (s.size : Int) (by omega) (by omega) (by rw [hby]; omega) (by omega)
  rw [hsz, Int.toNat_natCast, Nat.mul_one] at h
  exact h

/-! ### The loops behind the first -/
theorem fst_step {m : List UInt8} {j : Nat} (h : fst0 m = j + fst0 (m.drop j)) (hj : j < m.length) (he : m[j] = 48) : fst0 m = (j + 1) + fst0 (m.drop (j + 1)) := by
  rw [h, List.drop_eq_getElem_cons hj, he, fst0_cons_zero]
  omega
theorem fst_stop {m : List UInt8} {j : Nat} (h : fst0 m = j + fst0 (m.drop j)) (hj : j < m.length) (he : m[j] ≠ 48) : fst0 m = j := by
  rw [h, List.drop_eq_getElem_cons hj, fst0_cons_ne he]
  rfl
theorem fst_over {m : List UInt8} {j : Nat} (h : fst0 m = j + fst0 (m.drop j)) (hj : ¬ j < m.length) : fst0 m = j := by
  rw [h, List.drop_eq_nil_of_le (by omega)]
  rfl
theorem lst_step {m : List UInt8} {j : Nat} (h : trimR m = trimR (m.take (j + 1))) (hj : j < m.length) (he : m[j] = 48) : trimR m = trimR (m.take j) := by
  rw [h, List.take_succ_eq_append_getElem hj, he, trimR_snoc_zero]
theorem lst_stop {m : List UInt8} {j : Nat} (h : trimR m = trimR (m.take (j + 1))) (hj : j < m.length) (he : m[j] ≠ 48) : (trimR m).length = j + 1 := by
  rw [h, List.take_succ_eq_append_getElem hj, trimR_snoc_ne _ he, List.length_append, List.length_take, Nat.min_eq_left (by omega)]
  rfl
theorem lst_pos {m : List UInt8} (h : fst0 m ≠ m.length) : fst0 m < (trimR m).length := by
  have h1 : trimL m ≠ [] := fun e => h ((trimL_nil_iff m).1 e)
  have h2 := congrArg List.length (trimR_split h1)
  have h3 := fst0_le m
  rw [List.length_append, List.length_take, Nat.min_eq_left h3] at h2
  have h4 : 0 < (trimR (trimL m)).length := List.length_pos_iff.2 (trimR_ne h1)
  omega
theorem val_take {l : List UInt8} {j : Nat} (hj : j < l.length) : val (l.take (j + 1)) = val (l.take j) * 10 + dv l[j] := by
  rw [List.take_succ_eq_append_getElem hj, val_snoc]
theorem at_drop {x : List UInt8} {e j : Nat} (h : j < (x.drop e).length) : e + j < x.length := by rw [List.length_drop] at h; omega
theorem get_drop {x : List UInt8} {e j : Nat} (h : j < (x.drop e).length) : (x.drop e)[j] = x[e + j]'(at_drop h) := by rw [List.getElem_drop]

set_option maxHeartbeats 2000000 in
set_option maxRecDepth 100000 in
theorem zzReadModel_any (s : ByteArray) (w : World) (hs : s.size ≤ 4194304) :
    Calls Tryd.prog 16 #[.string s] w fun e w' => e = .returned (mdV (modelB s.data.toList)) ∧ Below w.heap.size w w' := by
  have hmk := make16 s hs
  obtain ⟨ti, hti, htz, hts, htb⟩ := info_parts info5
  go_enter Tryd.func16, Tryd.ntmps16
  go_wp2
  go_loopw [8, 9, 10, 11, 12, 13, 14] (fun v8 v9 v10 v11 v12 v13 v14 wr => ∃ (k : Nat) (σ : St), v8 = .int .i64 (σ.st : Int) ∧ v9 = .bool σ.neg ∧ v10 = .bool σ.en ∧ v11 = .int .i64 (σ.li : Int) ∧ v12 = .slice (some ⟨w.heap.size, 0, none⟩) σ.mant.length s.size ∧ v13 = .slice (some ⟨w.heap.size + 1, 0, none⟩) σ.exp.length s.size ∧ v14 = .int .i64 (k : Int) ∧ Lp s w k σ wr)
    (fun _ _ _ _ _ _ v14 _ => s.size - (intOf v14).toNat)
  case atStart =>
    exact ⟨0, St.start, rfl, rfl, rfl, rfl, rfl, by simp [St.start], rfl, lp_start s w hs⟩
  case round =>
    obtain ⟨k, ⟨st, ng, en, li, m, x⟩, rfl, rfl, rfl, rfl, rfl, rfl, rfl, hlp⟩ := hrel
    have hst : st ≤ 8 := hlp.st
    have hli : li ≤ k := hlp.li
    have hml : m.length ≤ k := hlp.ml
    have hel : x.length ≤ k := hlp.el
    have hkk : k ≤ s.size := hlp.hk
    have LP := hide hlp
    clear hlp
    by_cases hlt : k < s.size
    · go_upto_region 11 with fail
      go_cut [16] from 39 to 128 (fun v wx => v = .bool (isDig s[k]) ∧ wr = wx)
      case first => as_aux_lemma =>
        by_cases h1 : (s[k].toNat : Int) < 48
        · have HD := hide (isDig_false_lo h1)
          go_wp2
          go_meet
          case rel => exact ⟨by rw [HD.out], rfl⟩
        · have hd : isDig s[k] = decide ((s[k].toNat : Int) ≤ 57) := by
            by_cases h2 : (57 : Int) < (s[k].toNat : Int)
            · rw [isDig_false_hi h2, decide_eq_false (by omega)]
            · rw [isDig_true h1 h2, decide_eq_true (by omega)]
          have HD := hide hd
          clear hd
          go_wp2
          go_meet
          case rel => exact ⟨by rw [HD.out], rfl⟩
      case rest =>
      obtain ⟨rfl, rfl⟩ := hcut
      go_upto_region 12 with fail
      go_cut [17] from 39 to 128 (fun v wx => v = .bool (isSg s[k]) ∧ wr = wx)
      case first => as_aux_lemma =>
        have h3 : ((s[k].toNat : Int) == 43) = (s[k] == 43) := beq_byte (c := s[k]) (d := 43) (z := 43) rfl
        have h4 : ((s[k].toNat : Int) == 45) = (s[k] == 45) := beq_byte (c := s[k]) (d := 45) (z := 45) rfl
        cases hb : s[k] == 43 with
        | true =>
          rw [hb] at h3
          have HS := hide (show isSg s[k] = true by unfold isSg; rw [hb]; rfl)
          go_wp2
          go_meet
          case rel => exact ⟨by rw [HS.out], rfl⟩
        | false =>
          rw [hb] at h3
          have HS := hide (show isSg s[k] = (s[k] == 45) by unfold isSg; rw [hb]; rfl)
          go_wp2
          go_meet
          case rel => exact ⟨by rw [HS.out], rfl⟩
      case rest =>
      obtain ⟨rfl, rfl⟩ := hcut
      go_upto_region 13 with fail
      go_cut [18] from 39 to 128 (fun v wx => v = .bool (isEx s[k]) ∧ wr = wx)
      case first => as_aux_lemma =>
        have h3 : ((s[k].toNat : Int) == 101) = (s[k] == 101) := beq_byte (c := s[k]) (d := 101) (z := 101) rfl
        have h4 : ((s[k].toNat : Int) == 69) = (s[k] == 69) := beq_byte (c := s[k]) (d := 69) (z := 69) rfl
        cases hb : s[k] == 101 with
        | true =>
          rw [hb] at h3
          have HS := hide (show isEx s[k] = true by unfold isEx; rw [hb]; rfl)
          go_wp2
          go_meet
          case rel => exact ⟨by rw [HS.out], rfl⟩
        | false =>
          rw [hb] at h3
          have HS := hide (show isEx s[k] = (s[k] == 69) by unfold isEx; rw [hb]; rfl)
          go_wp2
          go_meet
          case rel => exact ⟨by rw [HS.out], rfl⟩
      case rest =>
      obtain ⟨rfl, rfl⟩ := hcut
      obtain ⟨bd, hbd⟩ : ∃ b, isDig s[k] = b := ⟨_, rfl⟩
      obtain ⟨bs, hbs⟩ : ∃ b, isSg s[k] = b := ⟨_, rfl⟩
      obtain ⟨bx, hbx⟩ : ∃ b, isEx s[k] = b := ⟨_, rfl⟩
      rw [hbd, hbs, hbx]
      have HBD := hide hbd
      have HBS := hide hbs
      have HBX := hide hbx
      clear hbd hbs hbx
      go_upto_block 2 with fail
      go_cut [9, 10, 19] from 39 to 128 (fun a b n wx => a = .bool (pneg st ng s[k]) ∧ b = .bool (pen st en s[k]) ∧ n = .int .i64 (nxI st s[k]) ∧ wr = wx)
      case first => as_aux_lemma =>
        have h4 : ((s[k].toNat : Int) == 45) = (s[k] == 45) := beq_byte (c := s[k]) (d := 45) (z := 45) rfl
        have h6 : ((s[k].toNat : Int) == 46) = (s[k] == 46) := beq_byte (c := s[k]) (d := 46) (z := 46) rfl
        obtain ⟨bp, hbp⟩ : ∃ b, (s[k] == 46) = b := ⟨_, rfl⟩
        rw [hbp] at h6
        have HN := hide (switch_eq (c := s[k]) (st := st) (ng := ng) (en := en) HBD.out HBS.out HBX.out hbp)
        clear hbp HBD HBS HBX
        have hcase : st = 0 ∨ st = 1 ∨ st = 2 ∨ st = 3 ∨ st = 4 ∨ st = 5 ∨ st = 6 ∨ st = 7 ∨ st = 8 := by omega
        rcases hcase with rfl | rfl | rfl | rfl | rfl | rfl | rfl | rfl | rfl
        · cases bs with
          | true => go_wp2; go_meet; case rel => exact ⟨HN.out.1, HN.out.2.1, HN.out.2.2, rfl⟩
          | false =>
            cases bd with
            | true => go_wp2; go_meet; case rel => exact ⟨HN.out.1, HN.out.2.1, HN.out.2.2, rfl⟩
            | false => cases bp <;> (go_wp2; go_meet; case rel => exact ⟨HN.out.1, HN.out.2.1, HN.out.2.2, rfl⟩)
        · cases bd with
          | true => go_wp2; go_meet; case rel => exact ⟨HN.out.1, HN.out.2.1, HN.out.2.2, rfl⟩
          | false => cases bp <;> (go_wp2; go_meet; case rel => exact ⟨HN.out.1, HN.out.2.1, HN.out.2.2, rfl⟩)
        · cases bd with
          | true => go_wp2; go_meet; case rel => exact ⟨HN.out.1, HN.out.2.1, HN.out.2.2, rfl⟩
          | false =>
            cases bp with
            | true => go_wp2; go_meet; case rel => exact ⟨HN.out.1, HN.out.2.1, HN.out.2.2, rfl⟩
            | false => cases bx <;> (go_wp2; go_meet; case rel => exact ⟨HN.out.1, HN.out.2.1, HN.out.2.2, rfl⟩)
        · cases bd with
          | true => go_wp2; go_meet; case rel => exact ⟨HN.out.1, HN.out.2.1, HN.out.2.2, rfl⟩
          | false => cases bx <;> (go_wp2; go_meet; case rel => exact ⟨HN.out.1, HN.out.2.1, HN.out.2.2, rfl⟩)
        · cases bd <;> (go_wp2; go_meet; case rel => exact ⟨HN.out.1, HN.out.2.1, HN.out.2.2, rfl⟩)
        · cases bd with
          | true => go_wp2; go_meet; case rel => exact ⟨HN.out.1, HN.out.2.1, HN.out.2.2, rfl⟩
          | false => cases bx <;> (go_wp2; go_meet; case rel => exact ⟨HN.out.1, HN.out.2.1, HN.out.2.2, rfl⟩)
        · cases bs with
          | true => go_wp2; go_meet; case rel => exact ⟨HN.out.1, HN.out.2.1, HN.out.2.2, rfl⟩
          | false => cases bd <;> (go_wp2; go_meet; case rel => exact ⟨HN.out.1, HN.out.2.1, HN.out.2.2, rfl⟩)
        · cases bd <;> (go_wp2; go_meet; case rel => exact ⟨HN.out.1, HN.out.2.1, HN.out.2.2, rfl⟩)
        · cases bd <;> (go_wp2; go_meet; case rel => exact ⟨HN.out.1, HN.out.2.1, HN.out.2.2, rfl⟩)
      case rest =>
      obtain ⟨rfl, rfl, rfl, rfl⟩ := hcut
      cases hn : nxt st s[k] with
      | none => as_aux_lemma =>
        have FIN := hide (mdV_no (lp_fail LP.out hlt hn))
        have hnx : nxI st s[k] = -1 := by unfold nxI; rw [hn]
        rw [hnx]
        clear hn hnx
        go_wp2
        go_returns
        exact ⟨FIN.out, LP.out.bel⟩
      | some n =>
        have hnx : nxI st s[k] = (n : Int) := by unfold nxI; rw [hn]
        rw [hnx]
        have HN := hide hn
        have hn8 := nxt_le hn
        clear hn hnx
        cases bd with
        | false => as_aux_lemma =>
          have L1 := hide (lp_skip LP.out hlt HN.out HBD.out)
          go_wp2
          exact ⟨⟨k + 1, _, rfl, rfl, rfl, rfl, rfl, rfl, by go_num, L1.out⟩, by simp [intOf]; omega⟩
        | true =>
          by_cases h2 : n = 2
          · as_aux_lemma =>
            have hb2 : ((n : Int) == 2) = true := by rw [beq_iff_eq]; omega
            go_wp2_with (at_builtin; refine wpList_append_own_spare _ rfl _ _ 33 rfl w.heap.size 5 ti 1 Tryd.underlying33 hti hts w.heap.size m.length s.size _ rfl (World.ownsRow.alloc LP.out.om _) ⟨wr.heap.size, 0, none⟩ 1 1 [.int .u8 (s[k].toNat : Int)] rfl rfl (cell_one_new _ _ _) (by simp [Value.oneCell']) (by omega) ?_)
            intro w1 hown1 hgrow1
            have L1 := hide (lp_mant LP.out hlt HN.out HBD.out (.inl h2) (li + 1) (by rw [if_pos h2]) _ hown1 hgrow1)
            clear hown1 hgrow1
            go_wp2
            exact ⟨⟨k + 1, _, by show _ = Value.int .i64 (n : Int); rw [h2]; rfl, rfl, rfl, by go_num, by simp, rfl, by go_num, L1.out⟩, by simp [intOf]; omega⟩
          · have hb2 : ((n : Int) == 2) = false := by rw [beq_eq_false_iff_ne]; omega
            by_cases h5 : n = 5
            · as_aux_lemma =>
              have hb5 : ((n : Int) == 5) = true := by rw [beq_iff_eq]; omega
              go_wp2_with (at_builtin; refine wpList_append_own_spare _ rfl _ _ 33 rfl w.heap.size 5 ti 1 Tryd.underlying33 hti hts w.heap.size m.length s.size _ rfl (World.ownsRow.alloc LP.out.om _) ⟨wr.heap.size, 0, none⟩ 1 1 [.int .u8 (s[k].toNat : Int)] rfl rfl (cell_one_new _ _ _) (by simp [Value.oneCell']) (by omega) ?_)
              intro w1 hown1 hgrow1
              have L1 := hide (lp_mant LP.out hlt HN.out HBD.out (.inr h5) li (by rw [if_neg h2]) _ hown1 hgrow1)
              clear hown1 hgrow1
              go_wp2
              exact ⟨⟨k + 1, _, by show _ = Value.int .i64 (n : Int); rw [h5]; rfl, rfl, rfl, by go_num, by simp, rfl, by go_num, L1.out⟩, by simp [intOf]; omega⟩
            · as_aux_lemma =>
              have hb5 : ((n : Int) == 5) = false := by rw [beq_eq_false_iff_ne]; omega
              go_wp2_with (at_builtin; refine wpList_append_own_spare _ rfl _ _ 33 rfl w.heap.size 5 ti 1 Tryd.underlying33 hti hts (w.heap.size + 1) x.length s.size _ rfl (World.ownsRow.alloc LP.out.oe _) ⟨wr.heap.size, 0, none⟩ 1 1 [.int .u8 (s[k].toNat : Int)] rfl rfl (cell_one_new _ _ _) (by simp [Value.oneCell']) (by omega) ?_)
              intro w1 hown1 hgrow1
              have L1 := hide (lp_exp LP.out hlt HN.out HBD.out h2 h5 _ hown1 hgrow1)
              clear hown1 hgrow1
              go_wp2
              exact ⟨⟨k + 1, _, rfl, rfl, rfl, by go_num, rfl, by simp, by go_num, L1.out⟩, by simp [intOf]; omega⟩
    · have LE := hide (lp_end LP.out hlt)
      go_upto_region 63 with fail
      go_cut [142] from 129 (fun v wx => v = .bool (!okSt st) ∧ wr = wx)
      case first => as_aux_lemma =>
        have hcase : st = 0 ∨ st = 1 ∨ st = 2 ∨ st = 3 ∨ st = 4 ∨ st = 5 ∨ st = 6 ∨ st = 7 ∨ st = 8 := by omega
        rcases hcase with rfl | rfl | rfl | rfl | rfl | rfl | rfl | rfl | rfl <;> (go_wp2; go_meet; case rel => exact ⟨rfl, rfl⟩)
      case rest =>
      obtain ⟨rfl, rfl⟩ := hcut
      cases hok : okSt st with
      | false =>
        have FIN := hide (mdV_no (LE.out.trans (by unfold outOf; rw [hok]; rfl)))
        clear hok
        go_wp2
        go_returns
        exact ⟨FIN.out, LP.out.bel⟩
      | true =>
        have LE2 := hide (LE.out.trans (show outOf ⟨st, ng, en, li, m, x⟩ = some (modelN ng en li m x) by unfold outOf; rw [hok]; rfl))
        clear hok LE
        have hed : allD x = true := LP.out.ed
        have HM : Hid (Row wr w.heap.size m) := hide (LP.out.om.row)
        have HX : Hid (Row wr (w.heap.size + 1) x) := hide (LP.out.oe.row)
        go_upto_block 3 with fail
        go_cut [20] from 143 (fun v wx => v = .int .i64 (fst0 m : Nat) ∧ wr = wx)
        case first => as_aux_lemma =>
          go_wp2_with fail
          go_loop [20] (fun v => ∃ j : Nat, j ≤ m.length ∧ v = .int .i64 (j : Nat) ∧ Hid (fst0 m = j + fst0 (m.drop j))) (fun v => m.length - (intOf v).toNat)
          case atStart => exact ⟨0, Nat.zero_le _, rfl, by show fst0 m = 0 + fst0 (m.drop 0); simp⟩
          case round =>
            obtain ⟨j, hj, rfl, HF⟩ := hrel
            by_cases h1 : j < m.length
            · have hc := HM.out.cell j h1
              by_cases h2 : m[j] = 48
              · have h3 : ((m[j].toNat : Int) == 48) = true := by rw [h2]; rfl
                have HS := hide (fst_step HF.out h1 h2)
                clear h2
                go_wp2
                go_round
                case rel => exact ⟨j + 1, h1, by go_num, HS⟩
                case measure => simp [intOf]; omega
              · have h3 : ((m[j].toNat : Int) == 48) = false := by
                  rw [beq_eq_false_iff_ne]; intro e; exact h2 (UInt8.toNat_inj.1 (by show m[j].toNat = 48; omega))
                have HS := hide (fst_stop HF.out h1 h2)
                clear h2
                go_wp2
                go_meet
                case rel => exact ⟨by rw [HS.out], rfl⟩
            · have HS := hide (fst_over HF.out h1)
              go_wp2
              go_meet
              case rel => exact ⟨by rw [HS.out], rfl⟩
        case rest =>
        obtain ⟨rfl, rfl⟩ := hcut
        by_cases h0 : fst0 m = m.length
        · have FIN := hide (mdV_yes (LE2.out.trans (show some (modelN ng en li m x) = some .zero by unfold modelN; rw [if_pos h0])))
          have hb : ((fst0 m : Int) == (m.length : Int)) = true := by rw [h0]; simp
          clear h0
          go_wp2
          go_returns
          exact ⟨FIN.out, LP.out.bel⟩
        · have hb : ((fst0 m : Int) == (m.length : Int)) = false := by rw [beq_eq_false_iff_ne]; omega
          have hfT := lst_pos h0
          have hTm := trimR_le m
          have LE3 := hide (mdV_yes (LE2.out.trans (congrArg some (show modelN ng en li m x = ⟨ng, modInt li m, modFrac li m, (addE en (trimL x) ((li : Int) - fst0 m)).1, (addE en (trimL x) ((li : Int) - fst0 m)).2⟩ by unfold modelN; rw [if_neg h0]))))
          clear h0 LE2
          go_upto_block 5 with fail
          go_cut [21] from 163 (fun v wx => v = .int .i64 ((((trimR m).length : Nat) : Int) - 1) ∧ wr = wx)
          case first => as_aux_lemma =>
            go_wp2_with fail
            go_loop [21] (fun v => ∃ j : Nat, j < m.length ∧ v = .int .i64 (j : Nat) ∧ Hid (trimR m = trimR (m.take (j + 1)))) (fun v => (intOf v).toNat)
            case atStart => exact ⟨m.length - 1, by omega, by go_num, by show trimR m = trimR (m.take (m.length - 1 + 1)); rw [show m.length - 1 + 1 = m.length by omega, List.take_length]⟩
            case round =>
              obtain ⟨j, hj, rfl, HF⟩ := hrel
              have hc := HM.out.cell j hj
              by_cases h2 : m[j] = 48
              · have h3 : ((m[j].toNat : Int) == 48) = true := by rw [h2]; rfl
                have hS := lst_step HF.out hj h2
                cases j with
                | zero =>
                  rw [List.take_zero] at hS
                  rw [hS] at hfT
                  simp [trimR] at hfT
                | succ j =>
                  have HS := hide hS
                  clear h2 hS
                  go_wp2
                  go_round
                  case rel => exact ⟨j, by omega, by go_num, HS⟩
                  case measure => simp [intOf]
              · have h3 : ((m[j].toNat : Int) == 48) = false := by
                  rw [beq_eq_false_iff_ne]; intro e; exact h2 (UInt8.toNat_inj.1 (by show m[j].toNat = 48; omega))
                have HS := hide (lst_stop HF.out hj h2)
                clear h2
                go_wp2
                go_meet
                case rel => exact ⟨by rw [HS.out]; go_num, rfl⟩
          case rest =>
          obtain ⟨rfl, rfl⟩ := hcut
          have HI : Hid (modInt li m = if fst0 m < li then (m.drop (fst0 m)).take (min li (trimR m).length - fst0 m) else []) := rfl
          have HFr : Hid (modFrac li m = if li < (trimR m).length then (m.drop (max li (fst0 m))).take ((trimR m).length - max li (fst0 m)) else []) := rfl
          generalize modInt li m = MI at *
          generalize modFrac li m = MF at *
          generalize (trimR m).length = T at *
          generalize fst0 m = f at *
          go_upto_if 172 with fail
          go_cut [22] from 170 (fun v wx => v = .string ⟨MI.toArray⟩ ∧ wr = wx)
          case first => as_aux_lemma =>
            by_cases h1 : f < li
            · by_cases h2 : T < li
              · have HE := hide (show MI = (m.drop f).take (T - f) by rw [HI.out, if_pos h1, Nat.min_eq_right (by omega)])
                have hst := HM.out.toStr (P := Tryd.prog) 33 5 9 Tryd.underlying33 Tryd.underlying5 Tryd.underlying9 f (T - f) (s.size - f) (by omega)
                go_wp2
                go_meet
                case rel => exact ⟨by rw [HE.out], rfl⟩
              · have HE := hide (show MI = (m.drop f).take (li - f) by rw [HI.out, if_pos h1, Nat.min_eq_left (by omega)])
                have hst := HM.out.toStr (P := Tryd.prog) 33 5 9 Tryd.underlying33 Tryd.underlying5 Tryd.underlying9 f (li - f) (s.size - f) (by omega)
                go_wp2
                go_meet
                case rel => exact ⟨by rw [HE.out], rfl⟩
            · have HE := hide (show MI = [] by rw [HI.out, if_neg h1])
              go_wp2
              go_meet
              case rel => exact ⟨by rw [HE.out], rfl⟩
          case rest =>
          obtain ⟨rfl, rfl⟩ := hcut
          go_upto_if 187 with fail
          go_cut [24] from 185 (fun v wx => v = .string ⟨MF.toArray⟩ ∧ wr = wx)
          case first => as_aux_lemma =>
            by_cases h1 : li < T
            · by_cases h2 : li < f
              · have HE := hide (show MF = (m.drop f).take (T - f) by rw [HFr.out, if_pos h1, Nat.max_eq_right (by omega)])
                have hst := HM.out.toStr (P := Tryd.prog) 33 5 9 Tryd.underlying33 Tryd.underlying5 Tryd.underlying9 f (T - f) (s.size - f) (by omega)
                go_wp2
                go_meet
                case rel => exact ⟨by rw [HE.out], rfl⟩
              · have HE := hide (show MF = (m.drop li).take (T - li) by rw [HFr.out, if_pos h1, Nat.max_eq_left (by omega)])
                have hst := HM.out.toStr (P := Tryd.prog) 33 5 9 Tryd.underlying33 Tryd.underlying5 Tryd.underlying9 li (T - li) (s.size - li) (by omega)
                go_wp2
                go_meet
                case rel => exact ⟨by rw [HE.out], rfl⟩
            · have HE := hide (show MF = [] by rw [HFr.out, if_neg h1])
              go_wp2
              go_meet
              case rel => exact ⟨by rw [HE.out], rfl⟩
          case rest =>
          obtain ⟨rfl, rfl⟩ := hcut
          go_upto_block 7 with fail
          go_cut [27] from 202 (fun v wx => v = .int .i64 (fst0 x : Nat) ∧ wr = wx)
          case first => as_aux_lemma =>
            go_wp2_with fail
            go_loop [27] (fun v => ∃ j : Nat, j ≤ x.length ∧ v = .int .i64 (j : Nat) ∧ Hid (fst0 x = j + fst0 (x.drop j))) (fun v => x.length - (intOf v).toNat)
            case atStart => exact ⟨0, Nat.zero_le _, rfl, by show fst0 x = 0 + fst0 (x.drop 0); simp⟩
            case round =>
              obtain ⟨j, hj, rfl, HF⟩ := hrel
              by_cases h1 : j < x.length
              · have hc := HX.out.cell j h1
                by_cases h2 : x[j] = 48
                · have h3 : ((x[j].toNat : Int) == 48) = true := by rw [h2]; rfl
                  have HS := hide (fst_step HF.out h1 h2)
                  clear h2
                  go_wp2
                  go_round
                  case rel => exact ⟨j + 1, h1, by go_num, HS⟩
                  case measure => simp [intOf]; omega
                · have h3 : ((x[j].toNat : Int) == 48) = false := by
                    rw [beq_eq_false_iff_ne]; intro e; exact h2 (UInt8.toNat_inj.1 (by show x[j].toNat = 48; omega))
                  have HS := hide (fst_stop HF.out h1 h2)
                  clear h2
                  go_wp2
                  go_meet
                  case rel => exact ⟨by rw [HS.out], rfl⟩
              · have HS := hide (fst_over HF.out h1)
                go_wp2
                go_meet
                case rel => exact ⟨by rw [HS.out], rfl⟩
          case rest =>
          obtain ⟨rfl, rfl⟩ := hcut
          have hex := fst0_le x
          have hmd2 : allD (x.drop (fst0 x)) = true := allD_drop hed _
          have hbig := fun h => trimL_big hed h
          rw [trimL_eq_drop] at LE3 hbig
          generalize fst0 x = e at *
          have hdl : (x.drop e).length = x.length - e := List.length_drop
          by_cases hl : x.length - e ≤ 18
          · have hadd : addE en (x.drop e) ((li : Int) - f) = (sgn en (val (x.drop e)) + ((li : Int) - f), []) := by unfold addE; rw [if_pos (by omega)]
            rw [hadd] at LE3
            have hvb := val_le_18 hmd2 (by omega)
            clear hadd hbig
            go_upto_region 89 with fail
            go_cut [28] from 215 (fun v wx => (∃ o cp : Nat, v = .slice (some ⟨w.heap.size + 1, o, none⟩) (x.length - e) cp ∧ (e < x.length → o = e)) ∧ wr = wx)
            case first => as_aux_lemma =>
              by_cases hse : s.size ≤ e
              · go_wp2
                go_meet
                case rel => exact ⟨⟨_, _, rfl, fun h => by omega⟩, rfl⟩
              · go_wp2
                go_meet
                case rel => exact ⟨⟨_, _, rfl, fun _ => rfl⟩, rfl⟩
            case rest =>
            obtain ⟨⟨off, cp, rfl, hoff⟩, rfl⟩ := hcut
            have HOF := hide hoff
            clear hoff
            go_upto_block 9 with fail
            go_cut [29] from 215 (fun v wx => v = .int .i64 (val (x.drop e) : Nat) ∧ wr = wx)
            case first => as_aux_lemma =>
              go_wp2_with fail
              go_loop [29, 30] (fun v i => ∃ j : Nat, j ≤ x.length - e ∧ i = .int .i64 (j : Nat) ∧ v = .int .i64 (val ((x.drop e).take j) : Nat)) (fun _ i => (x.length - e) - (intOf i).toNat)
              case atStart => exact ⟨0, Nat.zero_le _, rfl, rfl⟩
              case round =>
                obtain ⟨j, hj, rfl, rfl⟩ := hrel
                by_cases h1 : j < x.length - e
                · have hoe : off = e := HOF.out (by omega)
                  subst hoe
                  have hjd : j < (x.drop off).length := by omega
                  have hx1 : off + j < x.length := by omega
                  have hc := HX.out.cell (off + j) hx1
                  have hdg := (isDig_iff x[off + j]).1 (allD_mem hed (List.getElem_mem hx1))
                  obtain ⟨hb1, hb2⟩ := hdg
                  have hv := val_le_18 (allD_take hmd2 j) (by rw [List.length_take]; omega)
                  have hv1 := val_le_18 (allD_take hmd2 (j + 1)) (by rw [List.length_take]; omega)
                  have hS := val_take hjd
                  rw [get_drop hjd] at hS
                  have HS := hide hS
                  have hv2 : val ((x.drop off).take j) * 10 + (x[off + j].toNat - 48) < 1000000000000000000 := by have := HS.out; unfold dv at this; omega
                  clear hS hv1
                  go_wp2
                  go_round
                  case rel => exact ⟨j + 1, by omega, by go_num, by rw [HS.out]; unfold dv; go_num⟩
                  case measure => simp [intOf]; omega
                · have HS := hide (show (x.drop e).take j = x.drop e from List.take_of_length_le (by omega))
                  go_wp2
                  go_meet
                  case rel => exact ⟨by rw [HS.out], rfl⟩
            case rest =>
            obtain ⟨rfl, rfl⟩ := hcut
            generalize val (x.drop e) = V at *
            cases en with
            | true =>
              have HZ := hide (show (-(V : Int)) + ((li : Int) - f) = sgn true V + ((li : Int) - f) from rfl)
              go_wp2
              go_returns
              exact ⟨LE3.out, LP.out.bel⟩
            | false =>
              go_wp2
              go_returns
              exact ⟨LE3.out, LP.out.bel⟩
          · have hadd : addE en (x.drop e) ((li : Int) - f) = (0, (if en then [45] else []) ++ decDigits ((val (x.drop e) : Int) + sgn en ((li : Int) - f)).toNat) := by unfold addE; rw [if_neg (by omega)]
            rw [hadd] at LE3
            have hvb := hbig (by omega)
            have hst := HX.out.toStr (P := Tryd.prog) 33 5 9 Tryd.underlying33 Tryd.underlying5 Tryd.underlying9 e (x.length - e) (s.size - e) (by omega)
            rw [List.take_of_length_le (by omega)] at hst
            have hsz := size_mk (x.drop e)
            have hdt := data_mk (x.drop e)
            have H13 := hide (fun (d : Int) (wx : World) (h0 : -1000000000000000000 < d) (h1 : d < 1000000000000000000) (h2 : 0 ≤ (val (x.drop e) : Int) + d) => zzDecAdd_any ⟨(x.drop e).toArray⟩ d wx (by rw [hsz]; omega) (by rw [hsz]; omega) (by rw [hdt]; exact hmd2) h0 h1 (by rw [hdt]; exact h2))
            rw [hdt] at H13
            have hln := fun (d : Int) (hd : d ≤ 4194305) => sum_len hmd2 (show ¬ (x.drop e).length ≤ 18 by omega) hd
            clear hadd hbig hdt
            generalize x.drop e = X at *
            cases en with
            | true =>
              have hD := hln (-((li : Int) - f)) (by omega)
              have H13' := hide (fun wx => H13.out (-((li : Int) - f)) wx (by omega) (by omega) (by omega))
              have hLE := LE3.out
              clear LE3 H13 hln
              unfold sgn at hLE
              rw [if_pos rfl, if_pos rfl] at hLE
              have LE3 := hide hLE
              clear hLE
              generalize decDigits ((val X : Int) + -((li : Int) - f)).toNat = D at *
              go_wp2_with fail
              refine (H13'.out _).mono ?_
              rintro e0 w2 ⟨rfl, hb2⟩
              have HB := hide (LP.out.bel.trans (hb2.mono LP.out.bel.size))
              clear hb2
              go_wp2
              go_returns
              exact ⟨LE3.out, HB.out⟩
            | false =>
              have H13' := hide (fun wx => H13.out ((li : Int) - f) wx (by omega) (by omega) (by omega))
              have hLE := LE3.out
              clear LE3 H13 hln
              unfold sgn at hLE
              rw [if_neg (by decide), if_neg (by decide)] at hLE
              have LE3 := hide hLE
              clear hLE
              generalize decDigits ((val X : Int) + ((li : Int) - f)).toNat = D at *
              go_wp2_with fail
              refine (H13'.out _).mono ?_
              rintro e0 w2 ⟨rfl, hb2⟩
              have HB := hide (LP.out.bel.trans (hb2.mono LP.out.bel.size))
              clear hb2
              go_wp2
              go_returns
              exact ⟨LE3.out, HB.out⟩

end Go.Proofs.Qxb6601790aDoor
