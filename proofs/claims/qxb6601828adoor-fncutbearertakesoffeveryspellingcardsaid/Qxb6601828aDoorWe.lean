/-
  FnCutBearerTakesOffEverySpelling: the walk.
-/
import Derived.Test.Qxb6601828aDoorWd
import Derived.Test.Qxb6601828aDoorRow
import Derived.Lib.AppendStr
import Derived.OwnWalk
namespace Go.Proofs.Qxb6601828aDoor
open Go.RowKit


theorem bv_snoc {X : List UInt8} {c : UInt8} {z : Int} (h : z = (c.toNat : Int)) : bv X ++ [.int .u8 z] = bv (X ++ [c]) := by rw [h, bv_append]; rfl
theorem one_cell (z : Int) : ∀ u ∈ [Value.int .u8 z], u.oneCell' = true := by intro u hu; rw [List.mem_singleton] at hu; subst hu; rfl
theorem word_bounds (k : Nat) (h : k < (⟨#[98, 101, 97, 114, 101, 114]⟩ : ByteArray).size) : 97 ≤ ((⟨#[98, 101, 97, 114, 101, 114]⟩ : ByteArray)[k]).toNat ∧ ((⟨#[98, 101, 97, 114, 101, 114]⟩ : ByteArray)[k]).toNat ≤ 122 := by
  rw [word_at k h]
  have h' : k < 6 := h
  have : k = 0 ∨ k = 1 ∨ k = 2 ∨ k = 3 ∨ k = 4 ∨ k = 5 := by omega
  rcases this with rfl | rfl | rfl | rfl | rfl | rfl <;> decide
theorem fold_low (k : Nat) (h : k < 6) : Lib.foldEq (wl.getD k 0) (Pl.bl.getD k 0) = true := by
  have : k = 0 ∨ k = 1 ∨ k = 2 ∨ k = 3 ∨ k = 4 ∨ k = 5 := by omega
  rcases this with rfl | rfl | rfl | rfl | rfl | rfl <;> decide
theorem fold_up (k : Nat) (h : k < 6) : Lib.foldEq (UInt8.ofNat ((wl.getD k 0).toNat - 32)) (Pl.bl.getD k 0) = true := by
  have : k = 0 ∨ k = 1 ∨ k = 2 ∨ k = 3 ∨ k = 4 ∨ k = 5 := by omega
  rcases this with rfl | rfl | rfl | rfl | rfl | rfl <;> decide
theorem all_snoc {X : List UInt8} {k : Nat} {c : UInt8} (hX : X.length = k) (h : ∀ j, j < k → Lib.foldEq (X.getD j 0) (Pl.bl.getD j 0) = true) (hc : Lib.foldEq c (Pl.bl.getD k 0) = true) : ∀ j, j < k + 1 → Lib.foldEq ((X ++ [c]).getD j 0) (Pl.bl.getD j 0) = true := by
  intro j hj
  by_cases e : j = k
  · subst e
    have : (X ++ [c]).getD j 0 = c := by simp [List.getD, ← hX]
    rw [this]; exact hc
  · have : (X ++ [c]).getD j 0 = X.getD j 0 := by simp [List.getD, List.getElem?_append_left (show j < X.length by omega)]
    rw [this]; exact h j (by omega)
theorem toNat_ofNat {n : Nat} (h : n < 256) : (UInt8.ofNat n).toNat = n := by rw [UInt8.toNat_ofNat']; exact Nat.mod_eq_of_lt h

/-- The text that the law writes is cut as it says. -/
theorem spell {X c : List UInt8} {n : Nat} (hX : X.length = 6) (h : ∀ j, j < 6 → Lib.foldEq (X.getD j 0) (Pl.bl.getD j 0) = true) (hc : c = [] ∨ c.getD 0 0 ≠ 32) :
    Pl.okB (X ++ List.replicate (n + 1) 32 ++ c) = true ∧ Pl.res (X ++ List.replicate (n + 1) 32 ++ c) = c := by
  have e1 : X ++ List.replicate (n + 1) 32 ++ c = X ++ 32 :: (List.replicate n 32 ++ c) := by rw [List.replicate_succ]; simp
  rw [e1]
  have hok : Pl.okB (X ++ 32 :: (List.replicate n 32 ++ c)) = true := by
    refine Pl.okB_yes (by simp; omega) ?_ fun j hj => ?_
    · simp [List.getD, ← hX]
    · have : (X ++ 32 :: (List.replicate n 32 ++ c)).getD j 0 = X.getD j 0 := by simp [List.getD, List.getElem?_append_left (show j < X.length by omega)]
      rw [this]; exact h j hj
  refine ⟨hok, ?_⟩
  rw [res_yes hok]
  have e2 : (X ++ 32 :: (List.replicate n 32 ++ c)).drop 7 = List.replicate n 32 ++ c := by
    rw [List.drop_append, List.drop_eq_nil_of_le (by omega), hX]; simp
  rw [e2]
  unfold Lib.trimLeftB
  induction n with
  | zero =>
    cases c with
    | nil => rfl
    | cons x c =>
      have hx : (x == 32) = false := by
        rcases hc with hc | hc
        · cases hc
        · simpa using hc
      simp [hx]
  | succ n ih =>
    rw [List.replicate_succ, List.cons_append, List.dropWhile_cons]
    simp only [beq_self_eq_true, if_true]
    exact ih (by rw [List.replicate_succ]; simp) (by
      refine Pl.okB_yes (by simp; omega) ?_ fun j hj => ?_
      · simp [List.getD, ← hX]
      · have : (X ++ 32 :: (List.replicate n 32 ++ c)).getD j 0 = X.getD j 0 := by simp [List.getD, List.getElem?_append_left (show j < X.length by omega)]
        rw [this]; exact h j hj) (by rw [List.drop_append, List.drop_eq_nil_of_le (by omega), hX]; simp)

set_option maxHeartbeats 2000000 in
set_option maxRecDepth 100000 in
theorem law4_main (cr : ByteArray) (mk : Nat) (sp : Nat) (w : World) (hf : Folds w bearer) (h0 : 0 < w.heap.size) (_hmk : mk < 256) (hcr : cr.size ≤ 524288) (hsp : sp ≤ 65536)
    (hb : cr.size = 0 ∨ ∃ h : 0 < cr.size, cr[0] ≠ 32) :
    Calls Tryd.prog 4 #[.string cr, .int .u8 mk, .int .i64 sp] w fun e w' => e = .returned (.bool true) ∧ Below w.heap.size w w' := by
  have HF := hide hf
  have HBL := hide hb
  clear hf hb
  obtain ⟨i0, hi0, hi1, hi2, hi3⟩ := info_parts info5
  have hkey : (cr.size ≤ 0) ∨ ∃ h : 0 < cr.size, ((cr[0].toNat : Int) == 32) = false := by
    rcases HBL.out with h | ⟨h, h2⟩
    · exact .inl (by omega)
    · exact .inr ⟨h, by rw [beq_eq_false_iff_ne]; intro e; exact h2 (UInt8.toNat_inj.1 (by show cr[0].toNat = 32; omega))⟩
  have hcl0 : cr.data.toList = [] ∨ cr.data.toList.getD 0 0 ≠ 32 := by
    rcases HBL.out with h | ⟨h, h2⟩
    · exact .inl (List.eq_nil_of_length_eq_zero (by rw [← Lib.size_eq]; exact h))
    · exact .inr (by rw [getD_byte cr 0 h]; exact h2)
  have HCL := hide hcl0
  clear hcl0
  rcases hkey with hz | ⟨hz1, hne⟩
  all_goals go_enter Tryd.func4, Tryd.ntmps4
  all_goals go_wp2_with (first | (refine wpList_make_own _ rfl _ _ 26 rfl w.heap.size 5 i0 (.int .u8 0) 1 Tryd.underlying26 hi0 hi1 hi2 .i64 .i64 _ (7 + sp + cr.size) rfl rfl (by omega) (by rw [hi3]; omega) (by unfold maxLen; omega) (Nat.le_refl _) ?_; intro w1 hown1 hgr1) | (go_at_call 8; go_in))
  all_goals
    have hb1 := (Below.refl w.heap.size w).grown hgr1 (Nat.le_refl _) (by intro k hk; cases hk)
    have HB1 := hide hb1
    have HO1 := hide hown1
    clear hb1 hown1 hgr1
    go_loopw [7, 8] (fun v i wr => ∃ (k : Nat) (X : List UInt8), k ≤ 6 ∧ X.length = k ∧ i = .int .i64 k ∧ wr.ownsRow w.heap.size 5 1 v k (bv X) ∧ (∀ j, j < k → Lib.foldEq (X.getD j 0) (Pl.bl.getD j 0) = true) ∧ Below w.heap.size w wr) (fun _ i _ => 6 - (intOf i).toNat)
    case atStart => exact ⟨0, [], by omega, rfl, rfl, HO1.out, fun j hj => absurd hj (Nat.not_lt_zero _), HB1.out⟩
    case round =>
      obtain ⟨k, X, hk, hX, rfl, hown, hall, hb⟩ := hrel
      have HALL := hide hall
      have HB := hide hb
      have HO := hide hown
      have HX := hide hX
      clear hall hb hown hX
      by_cases hk6 : k < 6
      · have hwk : k < (⟨#[98, 101, 97, 114, 101, 114]⟩ : ByteArray).size := hk6
        have hwb := word_bounds k hwk
        obtain ⟨hwb1, hwb2⟩ := hwb
        have hsz := HB.out.size
        by_cases hbit : (bits BinOp.and IntKind.u8 ((mk : Int) / 2 ^ k) 1 == 1) = true
        · go_wp2_with (at_builtin; refine wpList_append_own _ rfl (.tmp 55) (.tmp 57) 26 rfl w.heap.size 5 i0 (.int .u8 0) 1 1 Tryd.underlying26 hi0 hi1 hi2 hi3 rfl (by decide) _ k (bv X) rfl (HO.out.alloc _) ⟨wr.heap.size, 0, none⟩ 1 1 [.int .u8 ((((⟨#[98, 101, 97, 114, 101, 114]⟩ : ByteArray)[k]).toNat : Int) - 32)] rfl rfl (cell_one_new _ _ _) (one_cell _) (by unfold maxLen; omega) (by omega) (by simp; omega) ?_; intro v' w2 hown' hgr _)
          have HO2 := hide hown'
          have HB2 := hide ((HB.out.alloc hsz _).grown hgr (by simp; omega) (fun q hq => (HO.out.lt q hq).1))
          clear hown' hgr
          go_roundw
          case rel =>
            refine ⟨k + 1, X ++ [UInt8.ofNat ((wl.getD k 0).toNat - 32)], by omega, by simp [HX.out], by go_num, ?_, all_snoc HX.out HALL.out (fold_up k hk6), HB2.out⟩
            rw [← bv_snoc (z := (((⟨#[98, 101, 97, 114, 101, 114]⟩ : ByteArray)[k]).toNat : Int) - 32) (by rw [word_at k hwk] at hwb1 hwb2 ⊢; rw [toNat_ofNat (by omega)]; omega)]
            exact HO2.out
          case measure => simp [intOf]; omega
        · have hbit' : (bits BinOp.and IntKind.u8 ((mk : Int) / 2 ^ k) 1 == 1) = false := by simpa using hbit
          clear hbit
          go_wp2_with (at_builtin; refine wpList_append_own _ rfl (.tmp 55) (.tmp 57) 26 rfl w.heap.size 5 i0 (.int .u8 0) 1 1 Tryd.underlying26 hi0 hi1 hi2 hi3 rfl (by decide) _ k (bv X) rfl (HO.out.alloc _) ⟨wr.heap.size, 0, none⟩ 1 1 [.int .u8 (((⟨#[98, 101, 97, 114, 101, 114]⟩ : ByteArray)[k]).toNat : Int)] rfl rfl (cell_one_new _ _ _) (one_cell _) (by unfold maxLen; omega) (by omega) (by simp; omega) ?_; intro v' w2 hown' hgr _)
          have HO2 := hide hown'
          have HB2 := hide ((HB.out.alloc hsz _).grown hgr (by simp; omega) (fun q hq => (HO.out.lt q hq).1))
          clear hown' hgr
          go_roundw
          case rel =>
            refine ⟨k + 1, X ++ [wl.getD k 0], by omega, by simp [HX.out], by go_num, ?_, all_snoc HX.out HALL.out (fold_low k hk6), HB2.out⟩
            rw [← bv_snoc (z := (((⟨#[98, 101, 97, 114, 101, 114]⟩ : ByteArray)[k]).toNat : Int)) (by rw [word_at k hwk])]
            exact HO2.out
          case measure => simp [intOf]; omega
      · have hk' : k = 6 := by omega
        have hX6 : X.length = 6 := by rw [HX.out]; exact hk'
        have HALL6 := hide (show ∀ j, j < 6 → Lib.foldEq (X.getD j 0) (Pl.bl.getD j 0) = true from fun j hj => HALL.out j (by omega))
        have HO6 := hide (show wr.ownsRow w.heap.size 5 1 _ 6 (bv X) from hk' ▸ HO.out)
        have HX6 := hide hX6
        clear hk' hX6 HALL HO HX
        go_wp2_with fail
        go_loopw [7, 10] (fun v i wx => ∃ q : Nat, q ≤ sp + 1 ∧ i = .int .i64 q ∧ wx.ownsRow w.heap.size 5 1 v (6 + q) (bv (X ++ List.replicate q 32)) ∧ Below w.heap.size w wx) (fun _ i _ => sp + 1 - (intOf i).toNat)
        case atStart => exact ⟨0, by omega, rfl, by simpa using HO6.out, HB.out⟩
        case round =>
          obtain ⟨q, hq, rfl, hown, hb⟩ := hrel
          have HBq := hide hb
          have HOq := hide hown
          clear hb hown
          have hsz := HBq.out.size
          by_cases hqs : q ≤ sp
          · go_wp2_with (at_builtin; refine wpList_append_own _ rfl (.tmp 64) (.tmp 65) 26 rfl w.heap.size 5 i0 (.int .u8 0) 1 1 Tryd.underlying26 hi0 hi1 hi2 hi3 rfl (by decide) _ (6 + q) (bv (X ++ List.replicate q 32)) rfl (HOq.out.alloc _) ⟨_, 0, none⟩ 1 1 [.int .u8 32] rfl rfl (cell_one_new _ _ _) (one_cell _) (by unfold maxLen; omega) (by omega) (by simp; omega) ?_; intro v' w2 hown' hgr _)
            have HO2 := hide hown'
            have HB2 := hide ((HBq.out.alloc hsz _).grown hgr (by simp; omega) (fun q hq => (HOq.out.lt q hq).1))
            clear hown' hgr
            go_roundw
            case rel =>
              refine ⟨q + 1, by omega, by go_num, ?_, HB2.out⟩
              rw [List.replicate_succ', ← List.append_assoc, ← bv_snoc (c := 32) (z := 32) rfl]
              exact HO2.out
            case measure => simp [intOf]; omega
          · obtain rfl : q = sp + 1 := by omega
            go_wp2_with (at_builtin; refine Lib.wpList_append_own_string _ rfl (.tmp 67) (.tmp 68) 26 9 rfl w.heap.size 5 i0 Tryd.underlying26 Tryd.underlying9 hi0 hi1 hi2 hi3 _ (6 + (sp + 1)) (bv (X ++ List.replicate (sp + 1) 32)) rfl HOq.out cr rfl (by unfold maxLen; omega) (by omega) hsz ?_; intro v' w2 hown' hgr _; obtain ⟨g, cap, hv, hg0, hg1, hrow, hlen⟩ := row_of_owns (xs := X ++ List.replicate (sp + 1) 32 ++ cr.data.toList) (by rw [bv_append]; exact hown') (by omega); rw [hv]; have hst := hrow.toStr (P := Tryd.prog) 26 5 9 Tryd.underlying26 Tryd.underlying5 Tryd.underlying9 0 (6 + (sp + 1) + cr.size) cap (by omega); rw [List.drop_zero, List.take_of_length_le (by omega)] at hst; have hspell := spell (n := sp) HX6.out HALL6.out HCL.out; generalize X ++ List.replicate (sp + 1) 32 ++ cr.data.toList = L at *; have HSP := hide hspell; clear hspell; have HB2 := hide (HBq.out.grown hgr hsz (fun q hq => (HOq.out.lt q hq).1)); have HR := hide hrow; clear hown' hgr hv hrow)
            have h6 := cutBearer_any ⟨L.toArray⟩ w2 (by rw [Lib.size_mk]; omega) (HF.out.below h0 HB2.out) (Nat.lt_of_lt_of_le h0 HB2.out.size)
            have e6 : (⟨(Pl.res L).toArray⟩ : ByteArray) = cr := by rw [HSP.out.2, Lib.mk_data]
            have h6' : Calls Tryd.prog 6 #[.string ⟨L.toArray⟩] w2 fun e w' => e = .returned (.tuple #[.string cr, .bool true]) ∧ Below w2.heap.size w2 w' := by
              refine h6.mono fun e w' ⟨he, hb⟩ => ⟨?_, hb⟩
              rw [he]
              show Ending.returned (.tuple #[.string ⟨(Pl.res L).toArray⟩, .bool (Pl.okB L)]) = _
              rw [e6, HSP.out.1]
            refine h6'.mono ?_
            rintro e w3 ⟨rfl, hb3⟩
            have HB3 := hide hb3
            clear hb3 h6 h6' e6
            go_wp2_with fail
            go_ret
            exact ⟨ret_bool (by simp), HB2.out.trans (HB3.out.mono HB2.out.size)⟩

set_option maxHeartbeats 1000000 in
set_option maxRecDepth 100000 in
/-- FnCutBearerTakesOffEverySpelling returns true. -/
theorem law4 (cr : ByteArray) (mk sp : Int) (w : World) (hs : cr.size ≤ maxLen) (hf : Folds w bearer) (h0 : 0 < w.heap.size) (hm0 : 0 ≤ mk) (hm1 : mk ≤ 255) :
    Calls Tryd.prog 4 #[.string cr, .int .u8 mk, .int .i64 sp] w fun e w' => e = .returned (.bool true) ∧ Below w.heap.size w w' := by
  unfold maxLen at hs
  obtain ⟨m, rfl⟩ := Int.eq_ofNat_of_zero_le hm0
  by_cases h1 : cr.size ≤ 524288
  · by_cases h2 : 0 ≤ sp
    · by_cases h3 : sp ≤ 65536
      · obtain ⟨q, rfl⟩ := Int.eq_ofNat_of_zero_le h2
        by_cases h4 : 0 < cr.size
        · by_cases h5 : cr[0] = 32
          · have h5' : ((cr[0].toNat : Int) == 32) = true := by rw [h5]; rfl
            clear hf h5
            go_enter Tryd.func4, Tryd.ntmps4
            go_wp2
            go_ret
            exact ⟨rfl, Below.refl _ _⟩
          · exact law4_main cr m q w hf h0 (by omega) h1 (by omega) (.inr ⟨h4, h5⟩)
        · exact law4_main cr m q w hf h0 (by omega) h1 (by omega) (.inl (by omega))
      · clear hf
        go_enter Tryd.func4, Tryd.ntmps4
        go_wp2
        go_ret
        exact ⟨rfl, Below.refl _ _⟩
    · clear hf
      go_enter Tryd.func4, Tryd.ntmps4
      go_wp2
      go_ret
      exact ⟨rfl, Below.refl _ _⟩
  · clear hf
    by_cases h2 : cr.size ≤ 1048576
    · go_enter Tryd.func4, Tryd.ntmps4
      go_wp2
      go_ret
      exact ⟨rfl, Below.refl _ _⟩
    · go_enter Tryd.func4, Tryd.ntmps4
      go_wp2
      go_ret
      exact ⟨rfl, Below.refl _ _⟩

end Go.Proofs.Qxb6601828aDoor
