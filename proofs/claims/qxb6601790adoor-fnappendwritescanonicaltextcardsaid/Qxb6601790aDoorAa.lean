/-
  Slices of bytes that a function appends to: what is kept, and the laws of append in these words.
-/
import Derived.Test.Qxb6601790aDoorTx
import Derived.ArgAppend
import Derived.Lib.AppendStr
import Derived.Lib.OwnKind
import Derived.Lib.OthersKept
import Derived.Maps.AppendAt
namespace Go.Proofs.Qxb6601790aDoor
open Go.RowKit Num
open Go.Lib (decDigits)

/-- A row of the call's own (from block B on) that holds these bytes. -/
abbrev Out (w : World) (B : Nat) (v : Value) (xs : List UInt8) : Prop := w.ownsRow B 5 1 v xs.length (bv xs)
/-- A slice of these bytes without room. -/
def Full (w : World) (v : Value) (xs : List UInt8) : Prop := ∃ g, v = .slice (some ⟨g, 0, none⟩) xs.length xs.length ∧ g < w.heap.size ∧ Row w g xs
def Src (w : World) (B : Nat) (v : Value) (xs : List UInt8) : Prop := Out w B v xs ∨ Full w v xs
/-- A slice that reads as these bytes. -/
def Txt (w : World) (v : Value) (xs : List UInt8) : Prop := (v = .slice none 0 0 ∧ xs = []) ∨ ∃ g cap, v = .slice (some ⟨g, 0, none⟩) xs.length cap ∧ g < w.heap.size ∧ xs.length ≤ cap ∧ Row w g xs
/-- What appending leaves alone: all below B, and every block that is no row of bytes. -/
structure Kp (B : Nat) (w w' : World) : Prop where
  bel : Below B w w'
  oth : Lib.OthersKept 5 none w w'
theorem Kp.refl (B : Nat) (w : World) : Kp B w w := ⟨Below.refl _ _, Lib.OthersKept.refl _ _ _⟩
theorem Kp.trans {B : Nat} {a b c : World} (h : Kp B a b) (k : Kp B b c) : Kp B a c := ⟨h.bel.trans k.bel, h.oth.trans k.oth⟩
theorem kept_of_below {w w' : World} (h : Below w.heap.size w w') : Lib.OthersKept 5 none w w' := by
  intro k o hk _ _
  rw [h.block k (Array.getElem?_eq_some_iff.1 hk).1]
  exact hk
theorem Kp.of {B : Nat} {w w' : World} (h : Below w.heap.size w w') (hB : B ≤ w.heap.size) : Kp B w w' := ⟨h.mono hB, kept_of_below h⟩
theorem Kp.alloc {B : Nat} {a w : World} (h : Kp B a w) (hB : B ≤ w.heap.size) (o : Obj) : Kp B a (w.alloc o) := ⟨h.bel.alloc hB o, h.oth.alloc o⟩
theorem Kp.size {B : Nat} {w w' : World} (h : Kp B w w') : w.heap.size ≤ w'.heap.size := h.bel.size

theorem own_base {w : World} {B B' : Nat} {v : Value} {n : Nat} {xs : List Value} (h : w.ownsRow B 5 1 v n xs) (hB : B' ≤ B) : w.ownsRow B' 5 1 v n xs := by
  refine ⟨h.1, ?_⟩
  rcases h.2 with h2 | ⟨g, cap, cur, h3, h4, h5⟩
  · exact .inl h2
  · exact .inr ⟨g, cap, cur, h3, Nat.le_trans hB h4, h5⟩
theorem grown_of_below {w w' : World} (h : Below w.heap.size w w') : w.grownBy w' none := ⟨h.os, h.tape, h.output, h.size, fun k hk _ => h.block k hk⟩
theorem Out.below {w w' : World} {B : Nat} {v : Value} {xs : List UInt8} (h : Out w B v xs) (hb : Below w.heap.size w w') : Out w' B v xs :=
  World.ownsRow.kept h (grown_of_below hb) (by cases hv : v.ownBlock <;> simp)
theorem Full.below {w w' : World} {v : Value} {xs : List UInt8} (h : Full w v xs) (hb : Below w.heap.size w w') : Full w' v xs := by
  obtain ⟨g, rfl, hg, hr⟩ := h
  exact ⟨g, rfl, Nat.lt_of_lt_of_le hg hb.size, hr.below hb hg⟩
theorem Src.below {w w' : World} {B : Nat} {v : Value} {xs : List UInt8} (h : Src w B v xs) (hb : Below w.heap.size w w') : Src w' B v xs := by
  rcases h with h | h
  · exact .inl (h.below hb)
  · exact .inr (h.below hb)
theorem Src.alloc {w : World} {B : Nat} {v : Value} {xs : List UInt8} (h : Src w B v xs) (o : Obj) : Src (w.alloc o) B v xs := h.below ((Below.refl _ _).alloc (Nat.le_refl _) o)
theorem Txt.below {w w' : World} {v : Value} {xs : List UInt8} (h : Txt w v xs) (hb : Below w.heap.size w w') : Txt w' v xs := by
  rcases h with h | ⟨g, cap, h1, h2, h3, h4⟩
  · exact .inl h
  · exact .inr ⟨g, cap, h1, Nat.lt_of_lt_of_le h2 hb.size, h3, h4.below hb h2⟩
theorem Out.txt {w : World} {B : Nat} {v : Value} {xs : List UInt8} (h : Out w B v xs) : Txt w v xs := by
  rcases Nat.eq_zero_or_pos xs.length with h0 | h0
  · have hx : xs = [] := List.length_eq_zero_iff.1 h0
    subst hx
    rcases h.2 with ⟨h2, _⟩ | ⟨g, cap, cur, h3, h4, h5, h6, _⟩
    · exact .inl ⟨h2, rfl⟩
    · exact .inr ⟨g, cap, h3, (Array.getElem?_eq_some_iff.1 h5).1, h6, ⟨fun j hj => absurd hj (Nat.not_lt_zero _), fun j hj => absurd hj (Nat.not_lt_zero _)⟩⟩
  · obtain ⟨g, cap, h1, h2, h3, h4, _⟩ := row_of_owns h h0
    refine .inr ⟨g, cap, h1, h3, ?_, h4⟩
    rcases h.2 with ⟨h2, _⟩ | ⟨g', cap', cur, h3, _, _, h6, _⟩
    · rw [h1] at h2; cases h2
    · rw [h1] at h3; cases h3; exact h6
theorem Src.txt {w : World} {B : Nat} {v : Value} {xs : List UInt8} (h : Src w B v xs) : Txt w v xs := by
  rcases h with h | ⟨g, h1, h2, h3⟩
  · exact h.txt
  · exact .inr ⟨g, _, h1, h2, Nat.le_refl _, h3⟩
theorem Src.nil (w : World) (B : Nat) : Src w B (.slice none 0 0) [] := .inl (World.ownsRow_nil w B 5 1)

theorem Out.of_heap {w w' : World} {B : Nat} {v : Value} {xs : List UInt8} (h : Out w B v xs) (hh : w'.heap = w.heap) : Out w' B v xs := by
  refine ⟨h.1, ?_⟩
  rcases h.2 with h2 | ⟨g, cap, cur, h3, h4, h5, h6⟩
  · exact .inl h2
  · exact .inr ⟨g, cap, cur, h3, h4, by rw [hh]; exact h5, h6⟩
theorem Src.of_heap {w w' : World} {B : Nat} {v : Value} {xs : List UInt8} (h : Src w B v xs) (hh : w'.heap = w.heap) : Src w' B v xs := by
  rcases h with h | ⟨g, h1, h2, h3⟩
  · exact .inl (h.of_heap hh)
  · exact .inr ⟨g, h1, by rw [hh]; exact h2, ⟨fun j hj => by rw [← h3.cell j hj]; simp [World.cell?, hh], fun j hj => by rw [← h3.free j hj]; simp [World.frozen?, hh]⟩⟩
theorem Kp.drawn {B : Nat} {w w' : World} (h1 : w'.heap = w.heap) (h2 : w'.os = w.os) (h3 : w'.tape = w.tape) (h4 : w'.output = w.output) : Kp B w w' :=
  ⟨⟨h2, h3, h4, by rw [h1]; exact Nat.le_refl _, fun _ _ => by rw [h1]⟩, fun k o h _ _ => by rw [h1]; exact h⟩

section
variable {ops : Array Oper} {rest : List Oper} {o : Oper} {a : Act} {Q : Exit → Act → World → Prop}

/-- append(s, x...), x a row of bytes that is not empty. -/
theorem wp_putRow {K : Act → World → Prop} (w : World) (s x : Operand) (ho : o.op = .call { callee := .builtin .append, args := #[s, x], argTypes := #[33, 33] }) (B : Nat) (v : Value) (xs : List UInt8) (hs : a.eval s = v) (hsrc : Src w B v xs) (hB : B ≤ w.heap.size)
    (ad : Addr) (m c : Nat) (ys : List UInt8) (hm : ys.length = m) (hx : a.eval x = .slice (some ad) m c) (hy : ∀ j u, (bv ys)[j]? = some u → w.cell? (ad.add j) = some u) (h0 : 0 < m) (hl : xs.length + m ≤ 16777216)
    (h : ∀ v' w', Out w' B v' (xs ++ ys) → Kp B w w' → K (a.put o.dst v') w') : o.wp Tryd.prog a w K Q := by
  subst hm
  obtain ⟨ti, hti, htz, hts, htb⟩ := info_parts info5
  have hfin : ∀ (v' : Value) (w' : World) (b : Nat), B ≤ b → w'.ownsRow b 5 1 v' (xs.length + ys.length) (bv xs ++ bv ys) → Out w' B v' (xs ++ ys) := by
    intro v' w' b hb ho'
    have := own_base ho' hb
    unfold Out
    rw [List.length_append, bv_append]
    exact this
  rcases hsrc with hown | ⟨g, rfl, hg, hr⟩
  · refine wp_append_own w s x 33 ho B 5 ti (.int .u8 0) 1 1 Tryd.underlying33 hti htz hts htb rfl (by decide) v xs.length (bv xs) hs hown ad ys.length c (bv ys) hx (by rw [bv_length, Nat.mul_one]) hy bv_one (by unfold maxLen; omega) (by omega) hB ?_
    intro v' w' ho' hg' _
    exact h v' w' (hfin v' w' B (Nat.le_refl _) ho') ⟨(Below.refl _ _).grown hg' hB (fun k hk => (World.ownsRow.lt hown k hk).1), (Lib.OthersKept.refl _ _ _).grown hg' (Lib.ownsRow_kind hown)⟩
  · obtain ⟨v', w', hrun, ho', hg'⟩ := run_append_arg_grows (P := Tryd.prog) w 33 o.type 5 ti (.int .u8 0) 1 1 Tryd.underlying33 hti htz hts htb rfl (by decide) ⟨g, 0, none⟩ xs.length xs.length (bv xs) (by rw [bv_length, Nat.mul_one]) hr.news ad ys.length c (bv ys) (by rw [bv_length, Nat.mul_one]) hy (by omega) (by unfold maxLen; omega) (by omega)
    unfold Oper.wp
    simp only [execOp, ho, resolve, invoke, builtin, Sem.run_bind, Sem.run_pure, Result.andThen_ok, List.map_toArray, List.map_cons, List.map_nil, hs, hx, hrun]
    exact h v' w' (hfin v' w' w.heap.size hB ho') ⟨(Below.refl _ _).grown hg' hB (fun k hk => by cases hk), (Lib.OthersKept.refl _ _ _).grown hg' (fun k hk => by cases hk)⟩
theorem wp_put1 {K : Act → World → Prop} (W : World) (s x : Operand) (ho : o.op = .call { callee := .builtin .append, args := #[s, x], argTypes := #[33, 33] }) (B : Nat) (v : Value) (xs : List UInt8) (hs : a.eval s = v) (hsrc : Src W B v xs) (hB : B ≤ W.heap.size)
    (c : UInt8) (z : Int) (hz : z = (c.toNat : Int)) (b : Nat) (hb : b = W.heap.size) (hx : a.eval x = .slice (some ⟨b, 0, none⟩) 1 1) (hl : xs.length + 1 ≤ 16777216)
    (h : ∀ v' w', Out w' B v' (xs ++ [c]) → Kp B W w' → K (a.put o.dst v') w') : o.wp Tryd.prog a (W.alloc (.cells #[.int .u8 z] 5)) K Q := by
  subst hz
  subst hb
  refine wp_putRow _ s x ho B v xs hs (hsrc.alloc _) (by simp; omega) ⟨W.heap.size, 0, none⟩ 1 1 [c] rfl hx (cell_one_new W _ 5) (by decide) hl ?_
  intro v' w' h1 h2
  exact h v' w' h1 (((Kp.refl B W).alloc hB _).trans h2)
theorem wpList_putRow (w : World) (hgd : o.guard = none) (s x : Operand) (ho : o.op = .call { callee := .builtin .append, args := #[s, x], argTypes := #[33, 33] }) (B : Nat) (v : Value) (xs : List UInt8) (hs : a.eval s = v) (hsrc : Src w B v xs) (hB : B ≤ w.heap.size)
    (ad : Addr) (m c : Nat) (ys : List UInt8) (hm : ys.length = m) (hx : a.eval x = .slice (some ad) m c) (hy : ∀ j u, (bv ys)[j]? = some u → w.cell? (ad.add j) = some u) (h0 : 0 < m) (hl : xs.length + m ≤ 16777216)
    (h : ∀ v' w', Out w' B v' (xs ++ ys) → Kp B w w' → wpList Tryd.prog ops Q rest (a.put o.dst v') w') : wpList Tryd.prog ops Q (o :: rest) a w :=
  wpList_plain hgd fun _ hK => wp_putRow w s x ho B v xs hs hsrc hB ad m c ys hm hx hy h0 hl fun v' w' h1 h2 => hK _ _ (h v' w' h1 h2)
/-- append(s, c): the one byte lies in a new block. -/
theorem wpList_put1 (W : World) (hgd : o.guard = none) (s x : Operand) (ho : o.op = .call { callee := .builtin .append, args := #[s, x], argTypes := #[33, 33] }) (B : Nat) (v : Value) (xs : List UInt8) (hs : a.eval s = v) (hsrc : Src W B v xs) (hB : B ≤ W.heap.size)
    (c : UInt8) (z : Int) (hz : z = (c.toNat : Int)) (b : Nat) (hb : b = W.heap.size) (hx : a.eval x = .slice (some ⟨b, 0, none⟩) 1 1) (hl : xs.length + 1 ≤ 16777216)
    (h : ∀ v' w', Out w' B v' (xs ++ [c]) → Kp B W w' → wpList Tryd.prog ops Q rest (a.put o.dst v') w') : wpList Tryd.prog ops Q (o :: rest) a (W.alloc (.cells #[.int .u8 z] 5)) :=
  wpList_plain hgd fun _ hK => wp_put1 W s x ho B v xs hs hsrc hB c z hz b hb hx hl fun v' w' h1 h2 => hK _ _ (h v' w' h1 h2)
/-- The same as a step of a statement that draws its order. -/
theorem step_put1 {K : Act → World → Prop} {E : Prop} (w : World) (hgd : o.guard = none) (s x : Operand) (ho : o.op = .call { callee := .builtin .append, args := #[s, x], argTypes := #[33, 33] }) (B : Nat) (v : Value) (xs : List UInt8) (hs : a.eval s = v) (hsrc : Src w B v xs) (hB : B ≤ w.heap.size)
    (c : UInt8) (z : Int) (hz : z = (c.toNat : Int)) (b : Nat) (hb : w.cell? ⟨b, 0, none⟩ = some (.int .u8 z)) (hx : a.eval x = .slice (some ⟨b, 0, none⟩) 1 1) (hl : xs.length + 1 ≤ 16777216)
    (h : ∀ v' w', Out w' B v' (xs ++ [c]) → Kp B w w' → K (a.put o.dst v') w') : if Region.wanted o (yielded ops a.tmps) = true then o.wp Tryd.prog a w K Q else E := by
  rw [if_pos (by simp [Region.wanted, hgd])]
  subst hz
  refine wp_putRow w s x ho B v xs hs hsrc hB ⟨b, 0, none⟩ 1 1 [c] rfl hx ?_ (by decide) hl h
  intro j u hj
  match j, hj with
  | 0, hj =>
    have hu : Value.int .u8 (c.toNat : Int) = u := Option.some.inj hj
    rw [← hu]
    exact hb

/-- append(s, t...), t a string that is not empty. -/
theorem wpList_putStr (w : World) (hgd : o.guard = none) (s x : Operand) (ho : o.op = .call { callee := .builtin .append, args := #[s, x], argTypes := #[33, 9] }) (B : Nat) (v : Value) (xs : List UInt8) (hs : a.eval s = v) (hsrc : Src w B v xs) (hB : B ≤ w.heap.size)
    (t : ByteArray) (hx : a.eval x = .string t) (h0 : 0 < t.size) (hl : xs.length + t.size ≤ 16777216)
    (h : ∀ v' w', Out w' B v' (xs ++ t.data.toList) → Kp B w w' → wpList Tryd.prog ops Q rest (a.put o.dst v') w') : wpList Tryd.prog ops Q (o :: rest) a w := by
  obtain ⟨ti, hti, htz, hts, htb⟩ := info_parts info5
  have hfin : ∀ (v' : Value) (w' : World) (b : Nat), B ≤ b → w'.ownsRow b 5 1 v' (xs.length + t.size) (bv xs ++ Lib.strCells t) → Out w' B v' (xs ++ t.data.toList) := by
    intro v' w' b hb ho'
    have := own_base ho' hb
    unfold Out
    rw [List.length_append, bv_append, len_data]
    exact this
  rcases hsrc with hown | ⟨g, rfl, hg, hr⟩
  · refine Lib.wpList_append_own_string w hgd s x 33 9 ho B 5 ti Tryd.underlying33 Tryd.underlying9 hti htz hts htb v xs.length (bv xs) hs hown t hx (by unfold maxLen; omega) (by omega) hB ?_
    intro v' w' ho' hg' _
    exact h v' w' (hfin v' w' B (Nat.le_refl _) ho') ⟨(Below.refl _ _).grown hg' hB (fun k hk => (World.ownsRow.lt hown k hk).1), (Lib.OthersKept.refl _ _ _).grown hg' (Lib.ownsRow_kind hown)⟩
  · have hr1 := Lib.run_append_grow_string (P := Tryd.prog) w 33 9 o.type 5 ti (.int .u8 0) Tryd.underlying33 Tryd.underlying9 hti htz ⟨g, 0, none⟩ xs.length xs.length (bv xs) (by rw [bv_length, hts, Nat.mul_one]) hr.news t (by omega) (by omega) (by rw [htb]; exact growslice_fits (by omega) (by omega))
    refine wpList_plain hgd fun K hK => ?_
    unfold Oper.wp execOp
    simp only [ho, resolve, invoke, builtin, Sem.run_bind, Sem.run_pure, Result.andThen_ok, List.map_toArray, List.map_cons, List.map_nil, hs, hx, hr1]
    refine hK _ _ (h _ _ (hfin _ _ w.heap.size hB ?_) ?_)
    · have hge := grownCap_ge w (xs.length + t.size) xs.length 5
      have hcm : grownCap w (xs.length + t.size) xs.length 5 ≤ maxLen := grownCap_le_maxLen w (xs.length + t.size) xs.length 5 (by unfold maxLen; omega)
      have hlen : (bv xs ++ Lib.strCells t).length = (xs.length + t.size) * 1 := by rw [List.length_append, bv_length, Lib.strCells_length, Nat.mul_one]
      refine ⟨hlen, .inr ⟨w.heap.size, _, _, rfl, Nat.le_refl _, heap_alloc_new w.drew _, hge, hcm, ?_, ?_⟩⟩
      · have hz1 : (Value.int IntKind.u8 0).cells.size = 1 := rfl
        simp only [Array.size_append, List.size_toArray, size_zeroCells, hz1, bv_length, Lib.strCells_length]
        omega
      · simp only [Array.toList_append, List.append_assoc]
        rw [← List.append_assoc, ← hlen]
        exact List.take_left
    · have hg' : w.grownBy (w.drew.alloc (.cells ((bv xs).toArray ++ (Lib.strCells t).toArray ++ Builtin.zeroCells (Value.int .u8 0).cells (grownCap w (xs.length + t.size) xs.length 5 - (xs.length + t.size))) 5)) none := ⟨rfl, rfl, rfl, by simp, fun k hk _ => Below.heap_alloc w.drew _ k hk⟩
      exact ⟨(Below.refl _ _).grown hg' hB (fun k hk => by cases hk), (Lib.OthersKept.refl _ _ _).grown hg' (fun k hk => by cases hk)⟩
end

/-- What an appending function comes back with. -/
def App (w : World) (B : Nat) (zs : List UInt8) (e : Ending) (w' : World) : Prop := ∃ v', e = .returned v' ∧ Src w' B v' zs ∧ Kp B w w'

/-- The struct of a number in a block of its own. -/
def nmObj (n : Nm) : Obj := .cells #[.bool n.neg, .string ⟨n.ip.toArray⟩, .string ⟨n.fp.toArray⟩, .int .i64 n.pt, .string ⟨n.bp.toArray⟩] 28
/-- Those five cells. -/
theorem box_cells {W : World} {b : Nat} {n : Nm} (h : W.heap[b]? = some (nmObj n)) :
    W.cell? ⟨b, 0, none⟩ = some (.bool n.neg) ∧ W.cell? ⟨b, 1, none⟩ = some (.string ⟨n.ip.toArray⟩) ∧ W.cell? ⟨b, 2, none⟩ = some (.string ⟨n.fp.toArray⟩) ∧ W.cell? ⟨b, 3, none⟩ = some (.int .i64 n.pt) ∧ W.cell? ⟨b, 4, none⟩ = some (.string ⟨n.bp.toArray⟩) := by
  simp [World.cell?, h, nmObj]
theorem box_kept {B b : Nat} {W W' : World} {n : Nm} (h : W.heap[b]? = some (nmObj n)) (hk : Kp B W W') : W'.heap[b]? = some (nmObj n) :=
  hk.oth b _ h (by simp) (by intro c fz e; unfold nmObj at e; injection e with _ e _; exact absurd e (by decide))
theorem box_new (w : World) (n : Nm) : (w.alloc (nmObj n)).heap[w.heap.size]? = some (nmObj n) := heap_alloc_new w _

end Go.Proofs.Qxb6601790aDoor
