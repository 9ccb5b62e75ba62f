/-
  The walk of Append.
-/
import Derived.Test.Qxb6601790aDoorAc
import Derived.Deep.RegionLaw
namespace Go.Proofs.Qxb6601790aDoor
open Go.RowKit Num
open Go.Lib (decDigits)

theorem Kp.through {B : Nat} {w W w' : World} (hk : Kp B W w') (h : Below w.heap.size w W) (hB : B ≤ w.heap.size) : Kp B w w' := (Kp.of h hB).trans hk
theorem text_empty {n : Nm} (h : n.ip ++ n.fp = []) : text n = [48] := by unfold text canonT; rw [h]; rfl
theorem text_sci {n : Nm} (h : n.ip ++ n.fp ≠ []) (hs : sciOf n = true) : text n = sgB1 n.neg ++ ((n.ip ++ n.fp).take 1 ++ (if 1 < (n.ip ++ n.fp).length then 46 :: (n.ip ++ n.fp).drop 1 else []) ++ 101 :: sgnText (pv n - 1)) := by
  unfold text canonT body; rw [isE_false h, hs]; rfl
theorem sci_false {n : Nm} (hs : sciOf n = false) : n.bp = [] ∧ pv n = n.pt ∧ -5 ≤ n.pt ∧ n.pt ≤ 21 := by
  unfold sciOf at hs
  simp only [Bool.or_eq_false_iff, Bool.not_eq_false', decide_eq_false_iff_not, List.isEmpty_iff] at hs
  refine ⟨hs.1.1, ?_, by omega, by omega⟩
  unfold pv
  rw [hs.1.1]
  rfl
theorem text_plain {n : Nm} (h : n.ip ++ n.fp ≠ []) (hs : sciOf n = false) : text n = sgB1 n.neg ++ (if n.pt ≤ 0 then 48 :: 46 :: (List.replicate (-n.pt).toNat 48 ++ (n.ip ++ n.fp)) else if ((n.ip ++ n.fp).length : Int) ≤ n.pt then (n.ip ++ n.fp) ++ List.replicate (n.pt - (n.ip ++ n.fp).length).toNat 48 else (n.ip ++ n.fp).take n.pt.toNat ++ 46 :: (n.ip ++ n.fp).drop n.pt.toNat) := by
  obtain ⟨_, hp, _, _⟩ := sci_false hs
  unfold text canonT body; rw [isE_false h, hs, hp]; rfl

set_option maxHeartbeats 2000000 in
set_option maxRecDepth 100000 in
theorem Append_any (n : Nm) (v : Value) (xs : List UInt8) (w : World) (hsrc : Src w w.heap.size v xs) (htab : Tab powName w) (hl : xs.length ≤ 4194304) (hn : n.ip.length + n.fp.length ≤ 4194304 - 64) (hb : n.bp.length ≤ 4194304) (ha : allD (dropSign n.bp) = true) (hp0 : -9223372036854775808 ≤ n.pt) (hp1 : n.pt ≤ 9223372036854775807) (hp2 : n.bp = [] → -9223372036854775807 ≤ n.pt) :
    Calls Tryd.prog 20 #[nmV n, v] w (App w w.heap.size (xs ++ text n)) := by
  have HTB : Hid (TB w.heap.size w) := hide (Lib.tabBelow_of_tabIs htab)
  obtain ⟨B, hB⟩ : ∃ B, B = w.heap.size := ⟨_, rfl⟩
  rw [← hB] at hsrc HTB ⊢
  have hBw : B ≤ w.heap.size := by omega
  clear hB
  obtain ⟨ng, ni, nf, np, nb⟩ := n
  have hn : ni.length + nf.length ≤ 4194304 - 64 := hn
  have hd' : (ni ++ nf).length ≤ 4194304 - 64 := by rw [List.length_append]; exact hn
  have H31 : Hid (∀ wx, Calls Tryd.prog 31 #[nmV ⟨ng, ni, nf, np, nb⟩] wx fun e w' => e = .returned (.int .i64 ((ni ++ nf).length : Nat)) ∧ Below wx.heap.size wx w') := fun wx => numDigits_any ⟨ng, ni, nf, np, nb⟩ wx (by show ni.length + nf.length ≤ _; omega)
  have H32 : Hid (∀ (v : Value) (xs : List UInt8) (p q B : Nat) (wx : World), Src wx B v xs → B ≤ wx.heap.size → xs.length ≤ 8388608 → p ≤ q → q ≤ (ni ++ nf).length → Calls Tryd.prog 32 #[nmV ⟨ng, ni, nf, np, nb⟩, v, .int .i64 (p : Int), .int .i64 (q : Int)] wx (App wx B (xs ++ ((ni ++ nf).take q).drop p))) := fun v xs p q B wx h1 h2 h3 h4 h5 => appendDigits_any ⟨ng, ni, nf, np, nb⟩ v xs p q B wx h1 h2 h3 (by show ni.length + nf.length ≤ _; omega) h4 h5
  have H33 := hide (fun v xs B wx h1 h2 h3 h4 => appendExponent_any ⟨ng, ni, nf, np, nb⟩ v xs B wx h1 h2 h3 h4 hb ha hp0 hp1 hp2)
  have H34 := hide appendZeros_any
  have HS0 := hide (hsrc.alloc (nmObj ⟨ng, ni, nf, np, nb⟩))
  have HK0 := hide ((Kp.refl B w).alloc hBw (nmObj ⟨ng, ni, nf, np, nb⟩))
  have HX0 := hide (box_new w ⟨ng, ni, nf, np, nb⟩)
  have TE : Hid (ni ++ nf = [] → text ⟨ng, ni, nf, np, nb⟩ = [48]) := fun h => text_empty (n := ⟨ng, ni, nf, np, nb⟩) h
  have TS : Hid (ni ++ nf ≠ [] → sciOf ⟨ng, ni, nf, np, nb⟩ = true → text ⟨ng, ni, nf, np, nb⟩ = sgB1 ng ++ ((ni ++ nf).take 1 ++ (if 1 < (ni ++ nf).length then 46 :: (ni ++ nf).drop 1 else []) ++ 101 :: sgnText (pv ⟨ng, ni, nf, np, nb⟩ - 1))) := fun h1 h2 => text_sci (n := ⟨ng, ni, nf, np, nb⟩) h1 h2
  have TP : Hid (ni ++ nf ≠ [] → sciOf ⟨ng, ni, nf, np, nb⟩ = false → (-5 ≤ np ∧ np ≤ 21) ∧ text ⟨ng, ni, nf, np, nb⟩ = sgB1 ng ++ (if np ≤ 0 then 48 :: 46 :: (List.replicate (-np).toNat 48 ++ (ni ++ nf)) else if ((ni ++ nf).length : Int) ≤ np then (ni ++ nf) ++ List.replicate (np - (ni ++ nf).length).toNat 48 else (ni ++ nf).take np.toNat ++ 46 :: (ni ++ nf).drop np.toNat)) := fun h1 h2 => ⟨(sci_false h2).2.2, text_plain (n := ⟨ng, ni, nf, np, nb⟩) h1 h2⟩
  have HSC : Hid (sciOf ⟨ng, ni, nf, np, nb⟩ = (!nb.isEmpty || decide (np < -5) || decide (21 < np))) := rfl
  generalize text ⟨ng, ni, nf, np, nb⟩ = TX at *
  generalize pv ⟨ng, ni, nf, np, nb⟩ - 1 = PE at *
  generalize sciOf ⟨ng, ni, nf, np, nb⟩ = sc at *
  obtain ⟨N, hN⟩ : ∃ N, N = nmObj ⟨ng, ni, nf, np, nb⟩ := ⟨_, rfl⟩
  have hp0 : -9223372036854775808 ≤ np := hp0
  have hp1 : np ≤ 9223372036854775807 := hp1
  generalize ni ++ nf = d at *
  unfold nmV at *
  clear htab hsrc hb ha hp2 hn hN N
  go_enter Tryd.func20, Tryd.ntmps20
  go_wp2_with fail
  refine (H31.out _).mono ?_
  rintro e w1 ⟨rfl, hb1⟩
  have HS1 := hide (HS0.out.below hb1)
  have HK1 := hide (HK0.out.trans (Kp.of hb1 (Nat.le_trans hBw HK0.out.size)))
  have HX1 := hide (box_kept HX0.out (Kp.of (B := 0) hb1 (Nat.zero_le _)))
  clear hb1 HS0 HK0 HX0
  by_cases h0 : d.length = 0
  · have HTE := hide (TE.out (List.length_eq_zero_iff.1 h0))
    have hz : ((d.length : Int) == 0) = true := by rw [h0]; rfl
    clear h0
    go_wp2_with (at_builtin; refine wpList_put1 _ rfl _ _ rfl B _ _ rfl HS1.out (Nat.le_trans hBw HK1.out.size) 48 48 rfl _ (by simp) rfl (by omega) ?_)
    intro v2 w2 ho2 hk2
    have HO2 := hide ho2
    have HK2 := hide (HK1.out.trans hk2)
    clear ho2 hk2
    go_wp2
    go_ret
    exact ⟨_, rfl, by rw [HTE.out]; exact .inl HO2.out, HK2.out⟩
  · have hd1 : 1 ≤ d.length := by omega
    have hdne : d ≠ [] := fun e => h0 (by rw [e]; rfl)
    have hz : ((d.length : Int) == 0) = false := by rw [beq_eq_false_iff_ne]; omega
    obtain ⟨c0, c1, c2, c3, c4⟩ := box_cells HX1.out
    go_upto_if 15 with fail
    go_cut [1] from 16 (fun u wx => Src wx B u (xs ++ sgB1 ng) ∧ Kp B w wx ∧ wx.heap[w.heap.size]? = some (nmObj ⟨ng, ni, nf, np, nb⟩))
    case first =>
      cases ng with
      | true =>
        go_wp2_with (at_builtin; refine wpList_put1 _ rfl _ _ rfl B _ _ rfl HS1.out (Nat.le_trans hBw HK1.out.size) 45 45 rfl _ (by simp) rfl (by omega) ?_)
        intro v2 w2 ho2 hk2
        have HO2 := hide ho2
        have HK2 := hide (HK1.out.trans hk2)
        have HX2 := hide (box_kept HX1.out hk2)
        clear ho2 hk2
        go_wp2
        go_meet
        case rel => exact ⟨.inl HO2.out, HK2.out, HX2.out⟩
      | false =>
        go_wp2
        go_meet
        case rel => exact ⟨by show Src _ B _ (xs ++ []); rw [List.append_nil]; exact HS1.out, HK1.out, HX1.out⟩
    case rest =>
    obtain ⟨hs2, hk2, hx2⟩ := hcut
    clear c0 c1 c2 c3 c4
    have HS2 := hide hs2
    have HK2 := hide hk2
    have HX2 := hide hx2
    obtain ⟨c0, c1, c2, c3, c4⟩ := box_cells hx2
    clear hs2 hk2 hx2
    have hsg : (sgB1 ng).length ≤ 1 := by unfold sgB1; split <;> simp
    obtain ⟨X, hX⟩ : ∃ X, X = xs ++ sgB1 ng := ⟨_, rfl⟩
    rw [← hX] at HS2
    have hlX : X.length ≤ 4194305 := by rw [hX, List.length_append]; omega
    have HXX := hide hX
    clear hX hsg
    go_upto_region 6 with fail
    go_cut [31] from 16 (fun b wx => b = .bool sc ∧ wc = wx)
    case first =>
      cases hbe : nb.isEmpty with
      | false =>
        have HC := hide (show sc = true by rw [HSC.out, hbe]; rfl)
        go_wp2
        go_meet
        case rel => exact ⟨by rw [HC.out], rfl⟩
      | true =>
        by_cases h5 : np < -5
        · have HC := hide (show sc = true by rw [HSC.out, hbe, decide_eq_true h5]; rfl)
          go_wp2
          go_meet
          case rel => exact ⟨by rw [HC.out], rfl⟩
        · have HC := hide (show sc = decide (21 < np) by rw [HSC.out, hbe, decide_eq_false h5]; rfl)
          go_wp2
          go_meet
          case rel => exact ⟨by rw [HC.out], rfl⟩
    case rest =>
    obtain ⟨rfl, rfl⟩ := hcut
    cases sc with
    | true =>
      have HTX := hide (TS.out hdne rfl)
      clear TE TS TP h0 HS1 HK1 HX1
      have HTB2 := hide (HTB.out.on HK2.out.bel)
      have H32a := hide (H32.out u1 X 0 1 B wc HS2.out (Nat.le_trans hBw HK2.out.size) (by omega) (by decide) (by omega))
      go_wp2_with fail
      refine H32a.out.mono ?_
      rintro e w3 ⟨v3, rfl, hs3, hk3⟩
      rw [List.drop_zero] at hs3
      have hl1 : (X ++ d.take 1).length ≤ 4194306 := by rw [List.length_append, List.length_take]; omega
      obtain ⟨X3, hX3⟩ : ∃ X3, X3 = X ++ d.take 1 := ⟨_, rfl⟩
      rw [← hX3] at hs3 hl1
      have HX3 := hide hX3
      have HS3 := hide hs3
      have HK3 := hide (HK2.out.trans hk3)
      have HB3 := hide (box_kept HX2.out hk3)
      clear hs3 hk3 hX3 c0 c1 c2 c3 c4 H32a
      obtain ⟨c0, c1, c2, c3, c4⟩ := box_cells HB3.out
      go_upto_if 36 with fail
      go_cut [1] from 32 (fun u wx => Src wx B u (X3 ++ if 1 < d.length then 46 :: d.drop 1 else []) ∧ Kp B w wx ∧ wx.heap[w.heap.size]? = some (nmObj ⟨ng, ni, nf, np, nb⟩))
      case first =>
        by_cases h1 : 1 < d.length
        · go_wp2_with (at_builtin; refine wpList_put1 _ rfl _ _ rfl B _ _ rfl HS3.out (Nat.le_trans hBw HK3.out.size) 46 46 rfl _ (by simp) rfl (by omega) ?_)
          intro v4 w4 ho4 hk4
          have HK4 := hide (HK3.out.trans hk4)
          have HB4 := hide (box_kept HB3.out hk4)
          have H32b := hide (H32.out v4 (X3 ++ [46]) 1 d.length B w4 (.inl ho4) (Nat.le_trans hBw HK4.out.size) (by simp; omega) (by omega) (Nat.le_refl _))
          clear ho4 hk4 c0 c1 c2 c3 c4
          obtain ⟨c0, c1, c2, c3, c4⟩ := box_cells HB4.out
          go_wp2_with fail
          refine H32b.out.mono ?_
          rintro e w5 ⟨v5, rfl, hs5, hk5⟩
          rw [List.take_length, List.append_assoc] at hs5
          have HS5 := hide hs5
          have HK5 := hide (HK4.out.trans hk5)
          have HB5 := hide (box_kept HB4.out hk5)
          clear hs5 hk5
          go_wp2
          go_meet
          case rel => exact ⟨by rw [if_pos h1]; exact HS5.out, HK5.out, HB5.out⟩
        · go_wp2
          go_meet
          case rel => exact ⟨by rw [if_neg h1, List.append_nil]; exact HS3.out, HK3.out, HB3.out⟩
      case rest =>
      obtain ⟨hs4, hk4, hx4⟩ := hcut
      rename_i wd
      have hl4 : (X3 ++ if 1 < d.length then 46 :: d.drop 1 else []).length ≤ 8388599 := by
        rw [List.length_append]
        split
        · simp only [List.length_cons, List.length_drop]; omega
        · simp only [List.length_nil]; omega
      obtain ⟨X4, hX4⟩ : ∃ X4, X4 = X3 ++ if 1 < d.length then 46 :: d.drop 1 else [] := ⟨_, rfl⟩
      rw [← hX4] at hs4 hl4
      have HEQ := hide (show (X4 ++ [101]) ++ sgnText PE = xs ++ TX by rw [HTX.out, hX4, HX3.out, HXX.out]; simp)
      have HS4 := hide hs4
      have HK4 := hide hk4
      have HB4 := hide hx4
      clear hs4 hk4 hX4 c0 c1 c2 c3 c4
      obtain ⟨c0, c1, c2, c3, c4⟩ := box_cells hx4
      clear hx4
      obtain ⟨e0, e1, e2, e3, e4⟩ := box_cells (box_kept HB4.out ((Kp.refl 0 wc).alloc (Nat.zero_le _) (.cells #[.int .u8 101] 5)))
      have hwlt : w.heap.size < wc.heap.size := (Array.getElem?_eq_some_iff.1 HB4.out).1
      go_upto_region 11 with fail
      go_region_law (first
        | (refine step_put1 _ ?_ (.tmp 45) (.tmp 46) ?_ B u1 X4 ?_ ?_ ?_ 101 101 ?_ wc.heap.size ?_ ?_ ?_ ?_; rfl; rfl; rfl; exact (HS4.out.alloc _).of_heap rfl; (have := HK4.out.size; simp; omega); rfl; (simp); rfl; omega; intro v5 w5 ho5 hk5; have HO5 := hide ho5; have HKw := hide (Kp.through hk5 (by exact ((Below.refl _ _).alloc (Nat.le_refl _) _).drew) (Nat.le_trans hBw HK4.out.size)); have HK5 := hide (HK4.out.trans HKw.out); have HB5 := hide (box_kept HB4.out HKw.out); clear ho5 hk5 c0 c1 c2 c3 c4; obtain ⟨c0, c1, c2, c3, c4⟩ := box_cells HB5.out)
        | (go_simp; go_at_call 33; refine (H33.out _ (X4 ++ [101]) B _ ?_ ?_ ?_ ?_).mono ?_; exact (HO5.out.of_heap rfl); exact (Nat.le_trans hBw HK5.out.size); exact (HTB.out.on (HK5.out.trans (Kp.drawn rfl rfl rfl rfl)).bel); (simp; omega); rintro e w6 ⟨v6, rfl, hs6, hk6⟩; have HS6 := hide hs6; have HK6 := hide ((HK5.out.trans (Kp.drawn rfl rfl rfl rfl)).trans hk6); clear hs6 hk6; dsimp only))
      all_goals (go_wp2; go_ret; exact ⟨_, rfl, by rw [← HEQ.out]; exact HS6.out, HK6.out⟩)
    | false =>
      obtain ⟨⟨h5, h21⟩, hTX⟩ := TP.out hdne rfl
      have HTX := hide hTX
      clear TE TS TP h0 HS1 HK1 HX1 hTX
      by_cases hle : np ≤ 0
      · obtain ⟨c, hc⟩ : ∃ c : Nat, -np = (c : Int) := ⟨(-np).toNat, by omega⟩
        have HC := hide hc
        have hc5 : c ≤ 5 := by omega
        have HEQ := hide (show X ++ [48, 46] ++ List.replicate c 48 ++ d = xs ++ TX by
          rw [HTX.out, if_pos hle, hc, HXX.out]; simp)
        have hnc : np = -(c : Int) := by omega
        clear hc
        subst hnc
        clear HTX
        go_wp2_with (at_builtin; refine wpList_putStr _ rfl _ _ rfl B _ _ rfl HS2.out (Nat.le_trans hBw HK2.out.size) _ rfl (by decide) (by show X.length + 2 ≤ _; omega) ?_)
        intro v3 w3 ho3 hk3
        have HK3 := hide (HK2.out.trans hk3)
        have HB3 := hide (box_kept HX2.out hk3)
        have H34a := hide (H34.out v3 (X ++ [48, 46]) c B w3 (.inl ho3) (Nat.le_trans hBw HK3.out.size) (by simp; omega) (by omega))
        clear ho3 hk3 c0 c1 c2 c3 c4
        go_wp2_with fail
        refine H34a.out.mono ?_
        rintro e w4 ⟨v4, rfl, hs4, hk4⟩
        have HK4 := hide (HK3.out.trans hk4)
        have HB4 := hide (box_kept HB3.out hk4)
        have H32a := hide (H32.out v4 _ 0 d.length B w4 hs4 (Nat.le_trans hBw HK4.out.size) (by simp; omega) (Nat.zero_le _) (Nat.le_refl _))
        rw [List.take_length, List.drop_zero] at H32a
        clear hs4 hk4
        obtain ⟨c0, c1, c2, c3, c4⟩ := box_cells HB4.out
        go_wp2_with fail
        refine H32a.out.mono ?_
        rintro e w5 ⟨v5, rfl, hs5, hk5⟩
        rw [HEQ.out] at hs5
        have HS5 := hide hs5
        have HK5 := hide (HK4.out.trans hk5)
        clear hs5 hk5
        go_wp2
        go_ret
        exact ⟨_, rfl, HS5.out, HK5.out⟩
      · obtain ⟨p, hp⟩ : ∃ p : Nat, np = (p : Int) := ⟨np.toNat, by omega⟩
        subst hp
        by_cases hge : (d.length : Int) ≤ (p : Int)
        · obtain ⟨c, hc⟩ : ∃ c : Nat, (p : Int) - (d.length : Int) = (c : Int) := ⟨((p : Int) - (d.length : Int)).toNat, by omega⟩
          have HC := hide hc
          have hc5 : c ≤ 21 := by omega
          have HEQ := hide (show X ++ d ++ List.replicate c 48 = xs ++ TX by
            rw [HTX.out, if_neg hle, if_pos hge, hc, HXX.out]; simp)
          clear HTX
          have H32a := hide (H32.out u1 X 0 d.length B wc HS2.out (Nat.le_trans hBw HK2.out.size) (by omega) (Nat.zero_le _) (Nat.le_refl _))
          rw [List.take_length, List.drop_zero] at H32a
          go_wp2_with fail
          refine H32a.out.mono ?_
          rintro e w4 ⟨v4, rfl, hs4, hk4⟩
          have HK4 := hide (HK2.out.trans hk4)
          have H34a := hide (H34.out v4 (X ++ d) c B w4 hs4 (Nat.le_trans hBw HK4.out.size) (by simp; omega) (by omega))
          clear hs4 hk4 c0 c1 c2 c3 c4
          go_wp2_with fail
          refine H34a.out.mono ?_
          rintro e w5 ⟨v5, rfl, hs5, hk5⟩
          rw [HEQ.out] at hs5
          have HS5 := hide hs5
          have HK5 := hide (HK4.out.trans hk5)
          clear hs5 hk5
          go_wp2
          go_ret
          exact ⟨_, rfl, HS5.out, HK5.out⟩
        · have hpd : p < d.length := by omega
          have hp0 : 0 < p := by omega
          have HEQ := hide (show X ++ d.take p ++ [46] ++ d.drop p = xs ++ TX by
            rw [HTX.out, if_neg hle, if_neg hge, Int.toNat_natCast, HXX.out]; simp)
          clear HTX
          have H32a := hide (H32.out u1 X 0 p B wc HS2.out (Nat.le_trans hBw HK2.out.size) (by omega) (Nat.zero_le _) (by omega))
          rw [List.drop_zero] at H32a
          have hlp : (X ++ d.take p).length ≤ 4194400 := by rw [List.length_append, List.length_take]; omega
          go_wp2_with fail
          refine H32a.out.mono ?_
          rintro e w4 ⟨v4, rfl, hs4, hk4⟩
          have HS4 := hide hs4
          have HK4 := hide (HK2.out.trans hk4)
          have HB4 := hide (box_kept HX2.out hk4)
          clear hs4 hk4 c0 c1 c2 c3 c4
          go_wp2_with (at_builtin; refine wpList_put1 _ rfl _ _ rfl B _ _ rfl HS4.out (Nat.le_trans hBw HK4.out.size) 46 46 rfl _ (by simp) rfl (by omega) ?_)
          intro v5 w5 ho5 hk5
          have HK5 := hide (HK4.out.trans hk5)
          have HB5 := hide (box_kept HB4.out hk5)
          have H32b := hide (H32.out v5 (X ++ d.take p ++ [46]) p d.length B w5 (.inl (by simpa using ho5)) (Nat.le_trans hBw HK5.out.size) (by rw [List.length_append]; simp only [List.length_cons, List.length_nil]; omega) (by omega) (Nat.le_refl _))
          rw [List.take_length] at H32b
          clear ho5 hk5
          obtain ⟨c0, c1, c2, c3, c4⟩ := box_cells HB5.out
          go_wp2_with fail
          refine H32b.out.mono ?_
          rintro e w6 ⟨v6, rfl, hs6, hk6⟩
          rw [HEQ.out] at hs6
          have HS6 := hide hs6
          have HK6 := hide (HK5.out.trans hk6)
          clear hs6 hk6
          go_wp2
          go_ret
          exact ⟨_, rfl, HS6.out, HK6.out⟩

end Go.Proofs.Qxb6601790aDoor
