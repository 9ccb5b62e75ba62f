/-
  Walks of appendExponent and Append.
-/
import Derived.Test.Qxb6601790aDoorAb
namespace Go.Proofs.Qxb6601790aDoor
open Go.RowKit Num
open Go.Lib (decDigits)

/-! ### The exponent's text, plainly -/
theorem val_trimL (l : List UInt8) : val (trimL l) = val l := by
  induction l with
  | nil => rfl
  | cons c l ih =>
    by_cases hc : c = 48
    · subst hc
      rw [trimL_cons_zero, ih, val_cons]
      have : dv 48 = 0 := by decide
      rw [this]
      omega
    · rw [trimL_cons_ne hc]
theorem itoa_plus {e : Int} (h : 0 ≤ e) : [43] ++ Lib.itoa e = sgnText e := by
  unfold Lib.itoa sgnText
  rw [if_neg (by omega), if_neg (by omega), show e.toNat = e.natAbs by omega]
  rfl
theorem itoa_negv {e : Int} (h : e < 0) : Lib.itoa e = sgnText e := by
  unfold Lib.itoa sgnText
  rw [if_pos h, if_pos h]
theorem exp_small {n : Nm} (h0 : n.bp ≠ []) (hl : (trimL (dropSign n.bp)).length ≤ 18) : addExp n.bp (-1) = (pv n - 1, []) := by
  unfold addExp addE pv bigOf
  rw [if_pos hl, isE_false h0, val_trimL]
  rfl
theorem isNeg_sgB1 (en : Bool) (X : Nat) : isNeg (sgB1 en ++ decDigits X) = en := (sign_drop en (l := decDigits X) (fun c t e => by
    have := decDigits_allD X
    rw [e, allD_cons, Bool.and_eq_true] at this
    exact this.1)).2
theorem exp_big {n : Nm} (h0 : n.bp ≠ []) (ha : allD (dropSign n.bp) = true) (hl : ¬ (trimL (dropSign n.bp)).length ≤ 18) :
    ∃ t, addExp n.bp (-1) = (0, t) ∧ t ≠ [] ∧ t.length ≤ n.bp.length + 2 ∧ ((isNeg t = true ∧ sgnText (pv n - 1) = t) ∨ (isNeg t = false ∧ sgnText (pv n - 1) = 43 :: t)) := by
  have hb := trimL_big ha (by omega)
  have hsl := sum_len (mag := trimL (dropSign n.bp)) (d := sgn (isNeg n.bp) (-1)) (trimL_allD ha) hl (by unfold sgn; split <;> omega)
  have e : addExp n.bp (-1) = (0, sgB1 (isNeg n.bp) ++ decDigits ((val (trimL (dropSign n.bp)) : Int) + sgn (isNeg n.bp) (-1)).toNat) := by unfold addExp addE; rw [if_neg hl]; rfl
  have hp : pv n = sgn (isNeg n.bp) (val (dropSign n.bp)) := by unfold pv bigOf; rw [isE_false h0]; rfl
  have hlm : (trimL (dropSign n.bp)).length ≤ n.bp.length := by
    have := trimL_length (dropSign n.bp)
    have := dropSign_le n.bp
    omega
  have hs1 : (sgB1 (isNeg n.bp)).length ≤ 1 := by unfold sgB1; split <;> simp
  refine ⟨_, e, by simp [decDigits_ne_nil], by rw [List.length_append]; omega, ?_⟩
  rw [isNeg_sgB1, hp, val_trimL]
  rw [val_trimL] at hb
  generalize val (dropSign n.bp) = V at *
  cases isNeg n.bp with
  | true =>
    refine .inl ⟨rfl, ?_⟩
    show sgnText (-(V : Int) - 1) = [45] ++ decDigits ((V : Int) + -(-1)).toNat
    unfold sgnText
    rw [if_pos (by omega), show (-(V : Int) - 1).natAbs = ((V : Int) + -(-1)).toNat by omega]
    rfl
  | false =>
    refine .inr ⟨rfl, ?_⟩
    show sgnText ((V : Int) - 1) = 43 :: ([] ++ decDigits ((V : Int) + -1).toNat)
    unfold sgnText
    rw [if_neg (by omega), show ((V : Int) - 1).natAbs = ((V : Int) + -1).toNat by omega]
    rfl

/-- The table of powers, below the call's own blocks. -/
abbrev TB (B : Nat) (w : World) : Prop := Lib.TabBelow Tryd.prog B w powName .u64 Lib.pow10Tab

theorem appendInt_any (v : Value) (xs : List UInt8) (i : Int) (B : Nat) (w : World) (hown : Out w B v xs) (hB : B ≤ w.heap.size) (htb : TB B w) (hl : xs.length ≤ 8388608) (h0 : -9223372036854775808 ≤ i) (h1 : i ≤ 9223372036854775807) :
    Calls Tryd.prog 46 #[v, .int .i64 i, .int .i64 10] w (App w B (xs ++ Lib.itoa i)) := by
  refine (Any.strconv_AppendInt_10 Tryd.laysM176 B xs.length i h0 h1 v (bv xs) w hown hB (by omega) htb).mono ?_
  rintro e w' ⟨v', rfl, ho, hb, hk⟩
  refine ⟨v', rfl, .inl ?_, ⟨hb, hk⟩⟩
  unfold Out
  rw [List.length_append, bv_append]
  exact ho

set_option maxHeartbeats 2000000 in
set_option maxRecDepth 100000 in
theorem appendExponent_any (n : Nm) (v : Value) (xs : List UInt8) (B : Nat) (w : World) (hown : Out w B v xs) (hB : B ≤ w.heap.size) (htb : TB B w) (hl : xs.length ≤ 8388600) (hb : n.bp.length ≤ 4194304) (ha : allD (dropSign n.bp) = true) (hp0 : -9223372036854775808 ≤ n.pt) (hp1 : n.pt ≤ 9223372036854775807) (hp2 : n.bp = [] → -9223372036854775807 ≤ n.pt) :
    Calls Tryd.prog 33 #[nmV n, v] w (App w B (xs ++ sgnText (pv n - 1))) := by
  have HO0 : Hid (Out (w.alloc (nmObj n)) B v xs) := hide (hown.below ((Below.refl _ _).alloc (Nat.le_refl _) (nmObj n)))
  have HK0 := hide ((Kp.refl B w).alloc hB (nmObj n))
  have HT0 := hide ((htb.on HK0.out.bel).here)
  by_cases h0 : n.bp = []
  · have hp3 := hp2 h0
    have hpv : pv n = n.pt := by unfold pv; rw [h0]; rfl
    rw [hpv]
    obtain ⟨n1, n2, n3, n4, n5⟩ := n
    have h0 : n5 = [] := h0
    subst h0
    have hp0 : -9223372036854775808 ≤ n4 := hp0
    have hp1 : n4 ≤ 9223372036854775807 := hp1
    have hp3 : -9223372036854775807 ≤ n4 := hp3
    show Calls Tryd.prog 33 #[nmV ⟨n1, n2, n3, n4, []⟩, v] w (App w B (xs ++ sgnText (n4 - 1)))
    clear ha hp2 hpv hb
    unfold nmV
    obtain ⟨Z, hZe⟩ : ∃ Z, Z = n4 - 1 := ⟨_, rfl⟩
    have HZ := hide hZe
    by_cases hZ : 0 ≤ Z
    · rw [← hZe]
      go_enter Tryd.func33, Tryd.ntmps33
      rw [hZe] at hZ
      subst hZe
      go_wp2_with (at_builtin; refine wpList_put1 _ rfl _ _ rfl B _ _ rfl (.inl HO0.out) (Nat.le_trans hB HK0.out.size) 43 43 rfl _ (by simp) rfl (by omega) ?_)
      intro v2 w2 ho2 hk2
      have HK2 := hide (HK0.out.trans hk2)
      have H46 := hide (appendInt_any v2 (xs ++ [43]) (n4 - 1) B w2 ho2 (Nat.le_trans hB HK2.out.size) (htb.on HK2.out.bel) (by simp; omega) (by omega) (by omega))
      clear ho2 hk2
      go_wp2_with fail
      refine H46.out.mono ?_
      rintro e w3 ⟨v3, rfl, hs3, hk3⟩
      rw [List.append_assoc, itoa_plus hZ] at hs3
      have HS3 := hide hs3
      have HK3 := hide (HK2.out.trans hk3)
      clear hs3 hk3
      go_wp2
      go_ret
      exact ⟨_, rfl, HS3.out, HK3.out⟩
    · have hZ : Z < 0 := by omega
      subst hZe
      go_enter Tryd.func33, Tryd.ntmps33
      have H46 := hide (appendInt_any v xs (n4 - 1) B _ HO0.out (Nat.le_trans hB HK0.out.size) (htb.on HK0.out.bel) (by omega) (by omega) (by omega))
      go_wp2_with fail
      refine H46.out.mono ?_
      rintro e w3 ⟨v3, rfl, hs3, hk3⟩
      rw [itoa_negv hZ] at hs3
      have HS3 := hide hs3
      have HK3 := hide (HK0.out.trans hk3)
      clear hs3 hk3
      go_wp2
      go_ret
      exact ⟨_, rfl, HS3.out, HK3.out⟩
  · have hiE := isE_false h0
    have H45 := hide (addExponent_any ⟨n.bp.toArray⟩ (-1) (w.alloc (nmObj n)) HT0.out (by rw [size_mk]; exact hb) (by rw [data_mk]; exact ha) (by decide) (by decide))
    rw [data_mk] at H45
    unfold addV at H45
    by_cases hs : (trimL (dropSign n.bp)).length ≤ 18
    · have hv := val_le_18 (trimL_allD ha) hs
      have hpv : pv n = sgn (isNeg n.bp) (val (trimL (dropSign n.bp))) := by unfold pv bigOf; rw [isE_false h0, val_trimL]; rfl
      have hz0 : -1000000000000000000 ≤ pv n - 1 ∧ pv n - 1 ≤ 1000000000000000000 := by
        rw [hpv]
        unfold sgn
        split <;> omega
      rw [exp_small h0 hs] at H45
      clear hpv hv hs ha hp2
      obtain ⟨hz0, hz1⟩ := hz0
      generalize pv n - 1 = Z at *
      obtain ⟨n1, n2, n3, n4, n5⟩ := n
      have hp0 : -9223372036854775808 ≤ n4 := hp0
      have hp1 : n4 ≤ 9223372036854775807 := hp1
      have hiE : n5.isEmpty = false := hiE
      have h0 : n5 ≠ [] := h0
      clear h0
      unfold nmV
      by_cases hZ : 0 ≤ Z
      · go_enter Tryd.func33, Tryd.ntmps33
        go_wp2_with fail
        refine H45.out.mono ?_
        rintro e w1 ⟨rfl, hb1⟩
        have HO1 := hide (HO0.out.below hb1)
        have HK1 := hide (HK0.out.trans (Kp.of hb1 (Nat.le_trans hB HK0.out.size)))
        clear hb1
        go_wp2_with (at_builtin; refine wpList_put1 _ rfl _ _ rfl B _ _ rfl (.inl HO1.out) (Nat.le_trans hB HK1.out.size) 43 43 rfl _ (by simp) rfl (by omega) ?_)
        intro v2 w2 ho2 hk2
        have HK2 := hide (HK1.out.trans hk2)
        have H46 := hide (appendInt_any v2 (xs ++ [43]) Z B w2 ho2 (Nat.le_trans hB HK2.out.size) (htb.on HK2.out.bel) (by simp; omega) (by omega) (by omega))
        clear ho2 hk2
        go_wp2_with fail
        refine H46.out.mono ?_
        rintro e w3 ⟨v3, rfl, hs3, hk3⟩
        rw [List.append_assoc, itoa_plus hZ] at hs3
        have HS3 := hide hs3
        have HK3 := hide (HK2.out.trans hk3)
        clear hs3 hk3
        go_wp2
        go_ret
        exact ⟨_, rfl, HS3.out, HK3.out⟩
      · have hZ : Z < 0 := by omega
        go_enter Tryd.func33, Tryd.ntmps33
        go_wp2_with fail
        refine H45.out.mono ?_
        rintro e w1 ⟨rfl, hb1⟩
        have HO1 := hide (HO0.out.below hb1)
        have HK1 := hide (HK0.out.trans (Kp.of hb1 (Nat.le_trans hB HK0.out.size)))
        clear hb1
        have H46 := hide (appendInt_any v xs Z B _ HO1.out (Nat.le_trans hB HK1.out.size) (htb.on HK1.out.bel) (by omega) (by omega) (by omega))
        go_wp2_with fail
        refine H46.out.mono ?_
        rintro e w3 ⟨v3, rfl, hs3, hk3⟩
        rw [itoa_negv hZ] at hs3
        have HS3 := hide hs3
        have HK3 := hide (HK1.out.trans hk3)
        clear hs3 hk3
        go_wp2
        go_ret
        exact ⟨_, rfl, HS3.out, HK3.out⟩
    · obtain ⟨t, ht, hne, hlen, hsg⟩ := exp_big h0 ha hs
      rw [ht] at H45
      have htE := isE_false hne
      have hts := size_mk t
      have htp : 0 < t.length := List.length_pos_iff.2 hne
      have H47 := hide (hasPrefix_any ⟨t.toArray⟩)
      rw [data_mk] at H47
      clear ht hne hs ha hp2
      obtain ⟨n1, n2, n3, n4, n5⟩ := n
      have hp0 : -9223372036854775808 ≤ n4 := hp0
      have hp1 : n4 ≤ 9223372036854775807 := hp1
      have hiE : n5.isEmpty = false := hiE
      have hlen : t.length ≤ n5.length + 2 := hlen
      have hb : n5.length ≤ 4194304 := hb
      have h0 : n5 ≠ [] := h0
      clear h0
      rcases hsg with ⟨hng, htx⟩ | ⟨hng, htx⟩
      · rw [hng] at H47
        rw [htx]
        clear htx hng
        unfold nmV
        go_enter Tryd.func33, Tryd.ntmps33
        go_wp2_with fail
        refine H45.out.mono ?_
        rintro e w1 ⟨rfl, hb1⟩
        have HO1 := hide (HO0.out.below hb1)
        have HK1 := hide (HK0.out.trans (Kp.of hb1 (Nat.le_trans hB HK0.out.size)))
        clear hb1
        go_wp2_with fail
        refine (H47.out _).mono ?_
        rintro e w2 ⟨rfl, rfl⟩
        go_wp2_with (at_builtin; refine wpList_putStr _ rfl _ _ rfl B _ _ rfl (.inl HO1.out) (Nat.le_trans hB HK1.out.size) _ rfl (by omega) (by omega) ?_)
        intro v3 w3 ho3 hk3
        have HO3 := hide ho3
        have HK3 := hide (HK1.out.trans hk3)
        clear ho3 hk3
        go_wp2
        go_ret
        exact ⟨_, rfl, .inl HO3.out, HK3.out⟩
      · rw [hng] at H47
        rw [htx]
        clear htx hng
        unfold nmV
        go_enter Tryd.func33, Tryd.ntmps33
        go_wp2_with fail
        refine H45.out.mono ?_
        rintro e w1 ⟨rfl, hb1⟩
        have HO1 := hide (HO0.out.below hb1)
        have HK1 := hide (HK0.out.trans (Kp.of hb1 (Nat.le_trans hB HK0.out.size)))
        clear hb1
        go_wp2_with fail
        refine (H47.out _).mono ?_
        rintro e w2 ⟨rfl, rfl⟩
        go_wp2_with (at_builtin; refine wpList_put1 _ rfl _ _ rfl B _ _ rfl (.inl HO1.out) (Nat.le_trans hB HK1.out.size) 43 43 rfl _ (by simp) rfl (by omega) ?_)
        intro v2 w2 ho2 hk2
        have HO2 := hide ho2
        have HK2 := hide (HK1.out.trans hk2)
        clear ho2 hk2
        go_wp2_with (at_builtin; refine wpList_putStr _ rfl _ _ rfl B _ _ rfl (.inl HO2.out) (Nat.le_trans hB HK2.out.size) _ rfl (by omega) (by simp; omega) ?_)
        intro v3 w3 ho3 hk3
        have HO3 := hide ho3
        have HK3 := hide (HK2.out.trans hk3)
        clear ho3 hk3
        go_wp2
        go_ret
        exact ⟨_, rfl, .inl HO3.out, HK3.out⟩

end Go.Proofs.Qxb6601790aDoor
