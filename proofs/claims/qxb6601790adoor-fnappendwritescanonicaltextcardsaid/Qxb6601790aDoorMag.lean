/-
  What addToMagnitude's carry and borrow do, as lists; what it asks of its callees; the bytes of a string as a row.
-/
import Derived.Test.Qxb6601790aDoorWb
import Derived.Lib.AppendIntMem
import Derived.Lib.ConvBytes
namespace Go.Proofs.Qxb6601790aDoor
open Go.RowKit Num
open Go.Lib (decDigits)

/-! ### Lists -/
theorem tail_step {h : List UInt8} {r : Nat} (hr : r < h.length) {d : UInt8} (ht : h.drop (r + 1) = List.replicate (h.length - (r + 1)) d) (he : h[r] = d) : h.drop r = List.replicate (h.length - r) d := by
  rw [List.drop_eq_getElem_cons hr, ht, he, show h.length - r = h.length - (r + 1) + 1 by omega, List.replicate_succ]
theorem set_mid (a b : List UInt8) (x c : UInt8) : (a ++ x :: b).set a.length c = a ++ c :: b := by simp
theorem put_step {h : List UInt8} {r : Nat} (hr : r < h.length) (c x : UInt8) : (h.take (r + 1) ++ List.replicate (h.length - (r + 1)) c).set r x = h.take r ++ x :: List.replicate (h.length - (r + 1)) c := by
  have e : h.take (r + 1) ++ List.replicate (h.length - (r + 1)) c = h.take r ++ h[r] :: List.replicate (h.length - (r + 1)) c := by
    rw [List.take_succ_eq_append_getElem hr, List.append_assoc]; rfl
  have hl : (h.take r).length = r := by rw [List.length_take]; omega
  rw [e]
  have := set_mid (h.take r) (List.replicate (h.length - (r + 1)) c) h[r] x
  rw [hl] at this
  exact this
theorem put_same {h : List UInt8} {r : Nat} (hr : r < h.length) (c : UInt8) : h.take r ++ c :: List.replicate (h.length - (r + 1)) c = h.take r ++ List.replicate (h.length - r) c := by
  rw [show h.length - r = h.length - (r + 1) + 1 by omega, List.replicate_succ]
theorem at_put {h : List UInt8} {r : Nat} (hr : r < h.length) (c : UInt8) (hx : r < (h.take (r + 1) ++ List.replicate (h.length - (r + 1)) c).length) : (h.take (r + 1) ++ List.replicate (h.length - (r + 1)) c)[r] = h[r] := by
  rw [List.getElem_append_left (by rw [List.length_take]; omega)]
  simp
theorem split_at {h : List UInt8} {r : Nat} (hr : r < h.length) {d : UInt8} (ht : h.drop (r + 1) = List.replicate (h.length - (r + 1)) d) : h = h.take r ++ h[r] :: List.replicate (h.length - (r + 1)) d := by
  conv => lhs; rw [← List.take_append_drop r h, List.drop_eq_getElem_cons hr, ht]

theorem dv_succ {c : UInt8} (h : isDig c = true) (h9 : c ≠ 57) : dv (UInt8.ofNat (c.toNat + 1)) = dv c + 1 ∧ isDig (UInt8.ofNat (c.toNat + 1)) = true ∧ (UInt8.ofNat (c.toNat + 1)).toNat = c.toNat + 1 := by
  rw [isDig_iff] at h
  have : c.toNat ≠ 57 := fun e => h9 (UInt8.toNat_inj.1 (by simpa using e))
  have e : (UInt8.ofNat (c.toNat + 1)).toNat = c.toNat + 1 := toNat_ofNat (by omega)
  refine ⟨?_, ?_, e⟩
  · unfold dv; rw [e]; omega
  · rw [isDig_iff, e]; omega
theorem dv_pred {c : UInt8} (h : isDig c = true) (h0 : c ≠ 48) : dv (UInt8.ofNat (c.toNat - 1)) + 1 = dv c ∧ isDig (UInt8.ofNat (c.toNat - 1)) = true ∧ (UInt8.ofNat (c.toNat - 1)).toNat = c.toNat - 1 := by
  rw [isDig_iff] at h
  have : c.toNat ≠ 48 := fun e => h0 (UInt8.toNat_inj.1 (by simpa using e))
  have e : (UInt8.ofNat (c.toNat - 1)).toNat = c.toNat - 1 := toNat_ofNat (by omega)
  refine ⟨?_, ?_, e⟩
  · unfold dv; rw [e]; omega
  · rw [isDig_iff, e]; omega

/-- The carry has met a digit that is not 9. -/
theorem inc_val {h : List UInt8} {r : Nat} (hr : r < h.length) (ha : allD h = true) (ht : h.drop (r + 1) = List.replicate (h.length - (r + 1)) 57) (h9 : h[r] ≠ 57) :
    allD (h.take r ++ UInt8.ofNat (h[r].toNat + 1) :: List.replicate (h.length - (r + 1)) 48) = true ∧ val (h.take r ++ UInt8.ofNat (h[r].toNat + 1) :: List.replicate (h.length - (r + 1)) 48) = val h + 1 := by
  have hd := dv_succ (allD_mem ha (List.getElem_mem hr)) h9
  refine ⟨?_, ?_⟩
  · rw [allD_append, allD_take ha, allD_cons, hd.2.1, allD_rep _ _ isDig_zero]; rfl
  · have e := congrArg val (split_at hr ht)
    rw [val_append, val_cons, List.length_cons, List.length_replicate] at e
    rw [val_append, val_cons, List.length_cons, List.length_replicate, hd.1, val_zeros]
    have hn := val_nines (h.length - (r + 1))
    rw [Nat.add_mul]
    omega
/-- The carry has run through: all nines. -/
theorem inc_all {h : List UInt8} (ht : h.drop 0 = List.replicate (h.length - 0) 57) :
    allD (49 :: List.replicate h.length 48) = true ∧ val (49 :: List.replicate h.length 48) = val h + 1 := by
  refine ⟨by rw [allD_cons, allD_rep _ _ isDig_zero]; rfl, ?_⟩
  rw [List.drop_zero, Nat.sub_zero] at ht
  have hn := val_nines h.length
  rw [← ht] at hn
  rw [val_cons, val_zeros, List.length_replicate]
  have : dv 49 = 1 := by decide
  rw [this]
  omega
/-- The borrow has met a digit that is not 0. -/
theorem dec_val {h : List UInt8} {r : Nat} (hr : r < h.length) (ha : allD h = true) (ht : h.drop (r + 1) = List.replicate (h.length - (r + 1)) 48) (h0 : h[r] ≠ 48) :
    allD (h.take r ++ UInt8.ofNat (h[r].toNat - 1) :: List.replicate (h.length - (r + 1)) 57) = true ∧ val (h.take r ++ UInt8.ofNat (h[r].toNat - 1) :: List.replicate (h.length - (r + 1)) 57) + 1 = val h := by
  have hd := dv_pred (allD_mem ha (List.getElem_mem hr)) h0
  refine ⟨?_, ?_⟩
  · rw [allD_append, allD_take ha, allD_cons, hd.2.1, allD_rep _ _ isDig_nine]; rfl
  · have e := congrArg val (split_at hr ht)
    rw [val_append, val_cons, List.length_cons, List.length_replicate, val_zeros, ← hd.1, Nat.add_mul] at e
    rw [val_append, val_cons, List.length_cons, List.length_replicate]
    have hn := val_nines (h.length - (r + 1))
    omega

/-- What is handed to the last TrimLeft. -/
theorem whole_val {H : List UInt8} {low : Nat} (hH : allD H = true) (hl : low < 1000000000000000000) (hp : 0 < val H * 1000000000000000000 + low) :
    (H ++ List.replicate (18 - (decDigits low).length) 48 ++ decDigits low).dropWhile (· == 48) = decDigits (val H * 1000000000000000000 + low) := by
  have hlen := decDigits_len_le low 18 (by rw [pow18]; exact hl) (by decide)
  have hv : val (H ++ List.replicate (18 - (decDigits low).length) 48 ++ decDigits low) = val H * 1000000000000000000 + low := by
    rw [List.append_assoc, val_append, val_zeros_append, val_decDigits, List.length_append, List.length_replicate, Nat.sub_add_cancel hlen, pow18]
  rw [strip_eq (by rw [allD_append, allD_append, hH, allD_rep _ _ isDig_zero, decDigits_allD]; rfl) (by rw [hv]; exact hp), hv]

/-! ### The bytes of a string as a row -/
theorem bytesWorld_below (w : World) (e : TypeId) (s : ByteArray) : Below w.heap.size w (Lib.bytesWorld w e s) :=
  ⟨by simp [Lib.bytesWorld, World.freeze, World.alloc, World.drew, -World.alloc_eq, -World.drew_eq], by simp [Lib.bytesWorld, World.freeze, World.alloc, World.drew, -World.alloc_eq, -World.drew_eq], by simp [Lib.bytesWorld, World.freeze, World.alloc, World.drew, -World.alloc_eq, -World.drew_eq], by rw [Lib.bytesWorld_size]; omega, fun k hk => Lib.bytesWorld_at_old w e s k hk⟩
theorem bytesWorld_row (w : World) (e : TypeId) (s : ByteArray) : Row (Lib.bytesWorld w e s) w.heap.size s.data.toList := by
  refine ⟨fun j hj => ?_, fun j hj => ?_⟩
  · rw [Lib.bytesWorld_cell w e s j (by simpa using hj)]
    simp [List.getD, List.getElem?_eq_getElem hj]
  · have hsz : j < (Lib.bytesCells w e s).size := by
      have : j < s.data.size := by simpa using hj
      unfold Lib.bytesCells
      rw [Array.size_append, Array.size_map]
      omega
    unfold World.frozen?
    rw [Lib.bytesWorld_at_new]
    simp
    omega

/-! ### Between a row that the call owns and a row of bytes -/
/-- The cells of these bytes. -/
def bv (xs : List UInt8) : List Value := xs.map fun c => Value.int .u8 (c.toNat : Int)
theorem bv_length (xs : List UInt8) : (bv xs).length = xs.length := by simp [bv]
theorem bv_append (a b : List UInt8) : bv (a ++ b) = bv a ++ bv b := by simp [bv]
theorem bv_at {xs : List UInt8} {j : Nat} {u : Value} (h : (bv xs)[j]? = some u) : ∃ hj : j < xs.length, u = .int .u8 (xs[j].toNat : Int) := by
  unfold bv at h
  rw [List.getElem?_map, Option.map_eq_some_iff] at h
  obtain ⟨c, hc, rfl⟩ := h
  obtain ⟨hj, rfl⟩ := List.getElem?_eq_some_iff.1 hc
  exact ⟨hj, rfl⟩
theorem bv_one {xs : List UInt8} : ∀ u ∈ bv xs, u.oneCell' = true := by
  intro u hu
  obtain ⟨c, _, rfl⟩ := List.mem_map.1 hu
  rfl
theorem Row.news {w : World} {g : Nat} {xs : List UInt8} (h : Row w g xs) : ∀ j u, (bv xs)[j]? = some u → w.cell? ((⟨g, 0, none⟩ : Addr).add j) = some u := by
  intro j u hu
  obtain ⟨hj, rfl⟩ := bv_at hu
  have e : (⟨g, 0, none⟩ : Addr).add j = ⟨g, j, none⟩ := by unfold Addr.add; split <;> simp_all
  rw [e]
  exact h.cell j hj
theorem row_of_owns {w : World} {base : Nat} {v : Value} {n : Nat} {xs : List UInt8} (h : w.ownsRow base 5 1 v n (bv xs)) (hn : 0 < n) :
    ∃ g cap, v = .slice (some ⟨g, 0, none⟩) n cap ∧ base ≤ g ∧ g < w.heap.size ∧ Row w g xs ∧ xs.length = n := by
  have hl : xs.length = n := by have := h.1; rw [bv_length, Nat.mul_one] at this; exact this
  rcases h.2 with ⟨_, h0⟩ | ⟨g, cap, cur, hv, hg, hh, hc, hm, hs, ht⟩
  · omega
  · refine ⟨g, cap, hv, hg, ?_, ⟨fun j hj => ?_, fun j hj => ?_⟩, hl⟩
    · rcases Nat.lt_or_ge g w.heap.size with h' | h'
      · exact h'
      · rw [Array.getElem?_eq_none h'] at hh; simp at hh
    · subst hv
      rw [h.cellAt j (by omega)]
      simp [bv, List.getElem?_eq_getElem hj]
    · subst hv
      exact h.frozenAt j

/-! ### What is asked of the callees -/
/-- internal strconv's table of powers of ten, by its place on the row's list. -/
def Tab (nm : String) (w : World) : Prop := Lib.TabIs Tryd.prog w nm .u64 Lib.pow10Tab
theorem Tab.below {nm : String} {w w' : World} (h : Tab nm w) (hb : Below w.heap.size w w') : Tab nm w' := Lib.tabBelow_of_tabIs h w' hb
/-- strconv.FormatInt at base 10. -/
def Said38 (nm : String) : Prop := ∀ (n : Int) (w : World), -9223372036854775808 ≤ n → n ≤ 9223372036854775807 → Tab nm w → Calls Tryd.prog 38 #[.int .i64 n, .int .i64 10] w fun e w' => e = .returned (.string ⟨(Lib.itoa n).toArray⟩) ∧ Below w.heap.size w w'
/-- strings.Repeat of one byte, at most 18 times. -/
def Said39 : Prop := ∀ (c : Int) (w : World), 0 ≤ c → c ≤ 18 → Calls Tryd.prog 39 #[.string ⟨#[48]⟩, .int .i64 c] w fun e w' => e = .returned (.string ⟨(List.replicate c.toNat 48).toArray⟩) ∧ Below w.heap.size w w'
/-- strings.TrimLeft at one byte, the zero. -/
def Said40 : Prop := ∀ (s : ByteArray) (w : World), Calls Tryd.prog 40 #[.string s, .string ⟨#[48]⟩] w fun e w' => e = .returned (.string ⟨(s.data.toList.dropWhile (· == 48)).toArray⟩) ∧ w' = w

end Go.Proofs.Qxb6601790aDoor
