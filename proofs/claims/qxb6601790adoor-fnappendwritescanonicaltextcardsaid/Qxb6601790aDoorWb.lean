/-
  The walk of zzDecAdd: the schoolbook sum and difference.
-/
import Derived.Test.Qxb6601790aDoorRow
namespace Go.Proofs.Qxb6601790aDoor
open Go.RowKit Num
open Go.Lib (decDigits)

theorem len_data (s : ByteArray) : s.data.toList.length = s.size := by simp
theorem ret_str {a b : List UInt8} (h : a = b) : Ending.returned (.string ⟨a.toArray⟩) = .returned (.string ⟨b.toArray⟩) := by rw [h]
theorem pow18 : (10 : Nat) ^ 18 = 1000000000000000000 := by decide
theorem lt_pow_of {D n : Nat} (h : D < 1000000000000000000) (hn : 18 ≤ n) : D < 10 ^ n := by
  have := Nat.pow_le_pow_right (show 0 < 10 by decide) hn
  rw [pow18] at this
  omega
theorem div_next (D n r : Nat) (h : r < n) : D / 10 ^ (n - (r + 1)) / 10 = D / 10 ^ (n - r) := by
  rw [show n - r = n - (r + 1) + 1 by omega, Nat.pow_succ, Nat.div_div_eq_div_mul]

/-- What the first loop leaves, a digit more (a sum). -/
theorem sum_round {sg : Bool} {m : ByteArray} {X : List UInt8} {D cc r : Nat} {w wr : World} (hr : r < m.size) (h : Sum sg m.data.toList X D (m.size - (r + 1)) cc) (hrow : Row wr w.heap.size X) (hbel : Below w.heap.size w wr) (hsz : w.heap.size < wr.heap.size)
    (t c' : Nat) (ht : t ≤ 9) (hc' : c' ≤ 1) (z : Int) (hz : z = 48 + (t : Int))
    (e : cond sg (t + 10 * c' = dv m[r] + (D / 10 ^ (m.size - (r + 1))) % 10 + cc) (t + (D / 10 ^ (m.size - (r + 1))) % 10 + cc = dv m[r] + 10 * c')) :
    Sum sg m.data.toList (X.set (r + 1) (UInt8.ofNat (48 + t))) D (m.size - r) c' ∧ Row (wr.setCell ⟨w.heap.size, r + 1, none⟩ (.int .u8 z)) w.heap.size (X.set (r + 1) (UInt8.ofNat (48 + t))) ∧
      Below w.heap.size w (wr.setCell ⟨w.heap.size, r + 1, none⟩ (.int .u8 z)) ∧ w.heap.size < (wr.setCell ⟨w.heap.size, r + 1, none⟩ (.int .u8 z)).heap.size := by
  have hl := len_data m
  refine ⟨?_, ?_, hbel.setCell (Nat.le_refl _) _, by simpa using hsz⟩
  · rw [← hl] at h e hr ⊢
    exact h.step hr t c' ht hc' e
  · refine hrow.store (r + 1) (by rw [h.len, hl]; omega) _ z ?_
    rw [toNat_ofNat (by omega)]
    omega

theorem strip_end {Y : List UInt8} {n v k : Nat} (ha : allD Y = true) (hv : val Y = v) (hl : Y.length = n + 1) (hk : k < Y.length) (hz : ∀ j, j < k → Y.getD j 0 = 48) (hs : Y[k] ≠ 48 ∨ k + 1 = Y.length) : List.take (n + 1 - k) (List.drop k Y) = decDigits v := by
  rw [List.take_of_length_le (by rw [List.length_drop]; omega), ← hv]
  refine strip_keep ha hk (fun j hj => ?_) hs
  have := hz j hj
  simpa [List.getD, List.getElem?_eq_getElem (show j < Y.length by omega)] using this

set_option maxHeartbeats 1000000 in
/-- zzDecAdd at a d that is not below 0. -/
theorem zzDecAdd_add (m : ByteArray) (D : Nat) (w : World) (hm0 : 18 ≤ m.size) (hm : m.size ≤ 4194304) (ha : allD m.data.toList = true) (hD : D < 1000000000000000000) :
    Calls Tryd.prog 13 #[.string m, .int .i64 D] w fun e w' => e = .returned (.string ⟨(decDigits (val m.data.toList + D)).toArray⟩) ∧ Below w.heap.size w w' := by
  have HA : Hid (allD m.data.toList = true) := ha
  clear ha
  have hmk := run_make_row' (P := Tryd.prog) 33 5 (.int .u8 0) 1 Tryd.underlying33 info5 rfl .i64 .i64 (m.size + 1) (by omega) (by omega)
  have ec : ((m.size + 1 : Nat) : Int) = (m.size : Int) + 1 := by omega
  rw [ec] at hmk
  clear ec
  go_enter Tryd.func13, Tryd.ntmps13
  go_wp2
  go_loopw [6, 8, 9] (fun mg c i wr => ∃ (q : Nat) (X : List UInt8) (cc : Nat), q ≤ m.size ∧ i = .int .i64 ((q : Int) - 1) ∧ mg = .int .u64 (D / 10 ^ (m.size - q) : Nat) ∧ c = .int .i64 cc ∧ Sum true m.data.toList X D (m.size - q) cc ∧ Row wr w.heap.size X ∧ Below w.heap.size w wr ∧ w.heap.size < wr.heap.size)
    (fun _ _ i _ => (intOf i + 1).toNat)
  case atStart =>
    refine ⟨m.size, List.replicate (m.size + 1) 0, 0, Nat.le_refl _, rfl, ?_, rfl, ?_, row_made _ _ _, (Below.refl _ _).alloc (Nat.le_refl _) _, by simp⟩
    · simp
    · have := Sum.start true m.data.toList D
      rw [len_data] at this
      rw [Nat.sub_self]
      exact this
  case round =>
    obtain ⟨q, X, cc, hq, rfl, rfl, rfl, hsum, hrow, hbel, hsz⟩ := hrel
    have hcc := hsum.small
    have hlen := hsum.len
    rw [len_data] at hlen
    have hmg : D / 10 ^ (m.size - q) ≤ D := Nat.div_le_self _ _
    cases q with
    | succ r =>
      have hr : r < m.size := by omega
      have hb := (isDig_iff _).1 (allD_mem HA.out (mem_at m r (by omega)))
      obtain ⟨hb1, hb2⟩ := hb
      have hcl := hrow.cell (r + 1) (by omega)
      have hfr := hrow.free (r + 1) (by omega)
      have HR := hide (sum_round hr hsum hrow hbel hsz)
      have HDN := hide (div_next D m.size r hr)
      clear hsum hrow hbel
      generalize D / 10 ^ (m.size - (r + 1)) = dm at *
      by_cases hx : (10 : Int) ≤ ((m[r].toNat : Int) - 48) + ((dm : Int) % 10) + cc
      · go_wp2
        have R := HR.out (dv m[r] + dm % 10 + cc - 10) 1 (by unfold dv; omega) (by omega) (48 + ((m[r].toNat : Int) - 48 + (dm : Int) % 10 + cc - 10)) (by unfold dv; omega) (by simp only [cond]; unfold dv; omega)
        exact ⟨⟨r, _, 1, by omega, rfl, by rw [← HDN.out]; go_num, rfl, R⟩, by simp [intOf]⟩
      · go_wp2
        have R := HR.out (dv m[r] + dm % 10 + cc) 0 (by unfold dv; omega) (by omega) (48 + ((m[r].toNat : Int) - 48 + (dm : Int) % 10 + cc)) (by unfold dv; omega) (by simp only [cond]; unfold dv; omega)
        exact ⟨⟨r, _, 0, by omega, rfl, by rw [← HDN.out]; go_num, rfl, R⟩, by simp [intOf]⟩
    | zero =>
      have hcl := hrow.cell 0 (by omega)
      have hfr := hrow.free 0 (by omega)
      have hsum' : Sum true m.data.toList X D m.data.toList.length cc := by rw [len_data]; exact hsum
      have HY := hide (hsum'.done_add (lt_pow_of hD (by rw [len_data]; exact hm0)))
      have hrow2 := (hrow.store 0 (by omega) 48 48 rfl).store 0 (by simp; omega) (UInt8.ofNat (48 + cc)) (48 + (cc : Int)) (by rw [toNat_ofNat (by omega)]; omega)
      rw [List.set_set] at hrow2
      have hlY : (X.set 0 (UInt8.ofNat (48 + cc))).length = m.size + 1 := by simpa using hlen
      have hb2 := (hbel.setCell (p := ⟨w.heap.size, 0, none⟩) (Nat.le_refl _) (.int .u8 48)).setCell (p := ⟨w.heap.size, 0, none⟩) (Nat.le_refl _) (.int .u8 (48 + (cc : Int)))
      generalize X.set 0 (UInt8.ofNat (48 + cc)) = Y at *
      have HRow := hide hrow2
      have HB := hide hb2
      clear hsum hsum' hrow hrow2 hmg hb2 hbel
      go_wp2
      generalize ((wr.setCell { block := w.heap.size, off := 0 } (Value.int IntKind.u8 48)).setCell { block := w.heap.size, off := 0 } (Value.int IntKind.u8 (48 + (cc : Int)))) = w2 at *
      go_loop [12] (fun v => ∃ k : Nat, k ≤ m.size ∧ v = .int .i64 k ∧ ∀ j, j < k → Y.getD j 0 = 48) (fun v => m.size - (intOf v).toNat)
      case atStart => exact ⟨0, Nat.zero_le _, rfl, fun j hj => absurd hj (Nat.not_lt_zero _)⟩
      case round =>
        obtain ⟨k, hk, rfl, hz⟩ := hrel
        have HZ := hide hz
        clear hz
        have hk1 : k < Y.length := by omega
        have hck := HRow.out.cell k hk1
        have hst := HRow.out.toStr (P := Tryd.prog) 33 5 9 Tryd.underlying33 Tryd.underlying5 Tryd.underlying9 k (m.size + 1 - k) (m.size + 1 - k) (by omega)
        by_cases h1 : k < m.size
        · by_cases h2 : Y[k] = 48
          · have h3 : ((Y[k].toNat : Int) == 48) = true := by rw [h2]; rfl
            go_wp2
            go_round
            case rel =>
              refine ⟨k + 1, by omega, by go_num, fun j hj => ?_⟩
              by_cases e : j = k
              · subst e; simp [List.getD, List.getElem?_eq_getElem hk1, h2]
              · exact HZ.out j (by omega)
            case measure => simp [intOf]; omega
          · have h3 : ((Y[k].toNat : Int) == 48) = false := by
              rw [beq_eq_false_iff_ne]; intro e; exact h2 (UInt8.toNat_inj.1 (by show Y[k].toNat = 48; omega))
            go_wp2
            go_ret
            exact ⟨ret_str (strip_end HY.out.1 HY.out.2 hlY hk1 HZ.out (.inl h2)), HB.out⟩
        · go_wp2
          go_ret
          exact ⟨ret_str (strip_end HY.out.1 HY.out.2 hlY hk1 HZ.out (.inr (by omega))), HB.out⟩

set_option maxHeartbeats 1000000 in
/-- zzDecAdd at a d below 0. -/
theorem zzDecAdd_sub (m : ByteArray) (D : Nat) (w : World) (hm0 : 18 ≤ m.size) (hm : m.size ≤ 4194304) (ha : allD m.data.toList = true) (hD : D < 1000000000000000000) (hD1 : 1 ≤ D) (hge : D ≤ val m.data.toList) :
    Calls Tryd.prog 13 #[.string m, .int .i64 (-(D : Int))] w fun e w' => e = .returned (.string ⟨(decDigits (val m.data.toList - D)).toArray⟩) ∧ Below w.heap.size w w' := by
  have HA : Hid (allD m.data.toList = true) := ha
  clear ha
  have HG := hide hge
  clear hge
  have hmk := run_make_row' (P := Tryd.prog) 33 5 (.int .u8 0) 1 Tryd.underlying33 info5 rfl .i64 .i64 (m.size + 1) (by omega) (by omega)
  have ec : ((m.size + 1 : Nat) : Int) = (m.size : Int) + 1 := by omega
  rw [ec] at hmk
  clear ec
  go_enter Tryd.func13, Tryd.ntmps13
  go_wp2
  go_loopw [6, 8, 9] (fun mg c i wr => ∃ (q : Nat) (X : List UInt8) (cc : Nat), q ≤ m.size ∧ i = .int .i64 ((q : Int) - 1) ∧ mg = .int .u64 (D / 10 ^ (m.size - q) : Nat) ∧ c = .int .i64 cc ∧ Sum false m.data.toList X D (m.size - q) cc ∧ Row wr w.heap.size X ∧ Below w.heap.size w wr ∧ w.heap.size < wr.heap.size)
    (fun _ _ i _ => (intOf i + 1).toNat)
  case atStart =>
    refine ⟨m.size, List.replicate (m.size + 1) 0, 0, Nat.le_refl _, rfl, ?_, rfl, ?_, row_made _ _ _, (Below.refl _ _).alloc (Nat.le_refl _) _, by simp⟩
    · simp; omega
    · have := Sum.start false m.data.toList D
      rw [len_data] at this
      rw [Nat.sub_self]
      exact this
  case round =>
    obtain ⟨q, X, cc, hq, rfl, rfl, rfl, hsum, hrow, hbel, hsz⟩ := hrel
    have hcc := hsum.small
    have hlen := hsum.len
    rw [len_data] at hlen
    have hmg : D / 10 ^ (m.size - q) ≤ D := Nat.div_le_self _ _
    cases q with
    | succ r =>
      have hr : r < m.size := by omega
      have hb := (isDig_iff _).1 (allD_mem HA.out (mem_at m r (by omega)))
      obtain ⟨hb1, hb2⟩ := hb
      have hcl := hrow.cell (r + 1) (by omega)
      have hfr := hrow.free (r + 1) (by omega)
      have HR := hide (sum_round hr hsum hrow hbel hsz)
      have HDN := hide (div_next D m.size r hr)
      clear hsum hrow hbel
      generalize D / 10 ^ (m.size - (r + 1)) = dm at *
      by_cases hx : ((m[r].toNat : Int) - 48) - ((dm : Int) % 10) - cc < 0
      · go_wp2
        have R := HR.out (dv m[r] + 10 - dm % 10 - cc) 1 (by unfold dv; omega) (by omega) (48 + ((m[r].toNat : Int) - 48 - (dm : Int) % 10 - cc + 10)) (by unfold dv; omega) (by simp only [cond]; unfold dv; omega)
        exact ⟨⟨r, _, 1, by omega, rfl, by rw [← HDN.out]; go_num, rfl, R⟩, by simp [intOf]⟩
      · go_wp2
        have R := HR.out (dv m[r] - dm % 10 - cc) 0 (by unfold dv; omega) (by omega) (48 + ((m[r].toNat : Int) - 48 - (dm : Int) % 10 - cc)) (by unfold dv; omega) (by simp only [cond]; unfold dv; omega)
        exact ⟨⟨r, _, 0, by omega, rfl, by rw [← HDN.out]; go_num, rfl, R⟩, by simp [intOf]⟩
    | zero =>
      have hcl := hrow.cell 0 (by omega)
      have hfr := hrow.free 0 (by omega)
      have hsum' : Sum false m.data.toList X D m.data.toList.length cc := by rw [len_data]; exact hsum
      have HY := hide (hsum'.done_sub (lt_pow_of hD (by rw [len_data]; exact hm0)) HG.out)
      have hrow2 := hrow.store 0 (by omega) 48 48 rfl
      have hlY : (X.set 0 48).length = m.size + 1 := by simpa using hlen
      have hb2 := hbel.setCell (p := ⟨w.heap.size, 0, none⟩) (Nat.le_refl _) (.int .u8 48)
      generalize X.set 0 48 = Y at *
      have HRow := hide hrow2
      have HB := hide hb2
      clear hsum hsum' hrow hrow2 hmg hb2 hbel
      go_wp2
      generalize wr.setCell { block := w.heap.size, off := 0 } (Value.int IntKind.u8 48) = w2 at *
      go_loop [12] (fun v => ∃ k : Nat, k ≤ m.size ∧ v = .int .i64 k ∧ ∀ j, j < k → Y.getD j 0 = 48) (fun v => m.size - (intOf v).toNat)
      case atStart => exact ⟨0, Nat.zero_le _, rfl, fun j hj => absurd hj (Nat.not_lt_zero _)⟩
      case round =>
        obtain ⟨k, hk, rfl, hz⟩ := hrel
        have HZ := hide hz
        clear hz
        have hk1 : k < Y.length := by omega
        have hck := HRow.out.cell k hk1
        have hst := HRow.out.toStr (P := Tryd.prog) 33 5 9 Tryd.underlying33 Tryd.underlying5 Tryd.underlying9 k (m.size + 1 - k) (m.size + 1 - k) (by omega)
        by_cases h1 : k < m.size
        · by_cases h2 : Y[k] = 48
          · have h3 : ((Y[k].toNat : Int) == 48) = true := by rw [h2]; rfl
            go_wp2
            go_round
            case rel =>
              refine ⟨k + 1, by omega, by go_num, fun j hj => ?_⟩
              by_cases e : j = k
              · subst e; simp [List.getD, List.getElem?_eq_getElem hk1, h2]
              · exact HZ.out j (by omega)
            case measure => simp [intOf]; omega
          · have h3 : ((Y[k].toNat : Int) == 48) = false := by
              rw [beq_eq_false_iff_ne]; intro e; exact h2 (UInt8.toNat_inj.1 (by show Y[k].toNat = 48; omega))
            go_wp2
            go_ret
            exact ⟨ret_str (strip_end HY.out.1 (by have := HY.out.2; omega) hlY hk1 HZ.out (.inl h2)), HB.out⟩
        · go_wp2
          go_ret
          exact ⟨ret_str (strip_end HY.out.1 (by have := HY.out.2; omega) hlY hk1 HZ.out (.inr (by omega))), HB.out⟩

end Go.Proofs.Qxb6601790aDoor
