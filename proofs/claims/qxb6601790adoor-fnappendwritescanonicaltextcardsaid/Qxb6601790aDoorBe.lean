/-
  The walk of zzAppendModel.
-/
import Derived.Test.Qxb6601790aDoorBc
import Derived.Test.Qxb6601790aDoorBd
namespace Go.Proofs.Qxb6601790aDoor
open Go.RowKit Num
open Go.Lib (decDigits)

set_option maxHeartbeats 2000000 in
set_option maxRecDepth 100000 in
theorem zzAppendModel_any (ng : Bool) (s1 s2 : ByteArray) (pt : Int) (s5 : ByteArray) (v : Value) (xs : List UInt8) (B : Nat) (w : World) (hsrc : Src w B v xs) (hB : B ≤ w.heap.size) (hl : xs.length ≤ 1048576) (h12 : s1.size + s2.size ≤ 1048576) (h5 : s5.size ≤ 1048576)
    (hsd : s5.data.toList = [] ∨ sd s5.data.toList = true) (hp0 : -9223372036854775808 ≤ pt) (hp1 : pt ≤ 9223372036854775807) (hp2 : s5.data.toList = [] → -9223372036854775807 ≤ pt) :
    Calls Tryd.prog 26 #[v, .bool ng, .string s1, .string s2, .int .i64 pt, .string s5] w (App w B (xs ++ text ⟨ng, s1.data.toList, s2.data.toList, pt, s5.data.toList⟩)) := by
  obtain ⟨D, hD⟩ : ∃ D, s1 ++ s2 = D := ⟨_, rfl⟩
  obtain ⟨d, hd⟩ : ∃ d, s1.data.toList ++ s2.data.toList = d := ⟨_, rfl⟩
  have hDl : D.data.toList = d := by rw [← hD, ← hd]; simp
  have hDs : D.size = d.length := by rw [← hDl, len_data]
  have hdl : d.length ≤ 1048576 := by rw [← hd, List.length_append, len_data, len_data]; exact h12
  have HG : Hid (∀ k (h1 : k < d.length) (h2 : k < D.size), D[k] = d[k]) := hide (fun k h1 h2 => by
    have := get_at (b := D) (D := d) (s := 0) (j := k) (by rw [List.drop_zero]; exact hDl) h1 (by omega)
    simpa using this)
  have TE : Hid (d = [] → text ⟨ng, s1.data.toList, s2.data.toList, pt, s5.data.toList⟩ = [48]) := hide (fun h => text_empty (n := ⟨ng, s1.data.toList, s2.data.toList, pt, s5.data.toList⟩) (hd.trans h))
  have TS : Hid (d ≠ [] → sciOf ⟨ng, s1.data.toList, s2.data.toList, pt, s5.data.toList⟩ = true → text ⟨ng, s1.data.toList, s2.data.toList, pt, s5.data.toList⟩ = sgB1 ng ++ (d.take 1 ++ (if 1 < d.length then 46 :: d.drop 1 else []) ++ 101 :: sgnText (pv ⟨ng, s1.data.toList, s2.data.toList, pt, s5.data.toList⟩ - 1))) := hide (fun h1 h2 => by
    have := text_sci (n := ⟨ng, s1.data.toList, s2.data.toList, pt, s5.data.toList⟩) (by show s1.data.toList ++ s2.data.toList ≠ []; rw [hd]; exact h1) h2
    rw [this]
    show sgB1 ng ++ ((s1.data.toList ++ s2.data.toList).take 1 ++ (if 1 < (s1.data.toList ++ s2.data.toList).length then 46 :: (s1.data.toList ++ s2.data.toList).drop 1 else []) ++ _) = _
    rw [hd])
  have TP : Hid (d ≠ [] → sciOf ⟨ng, s1.data.toList, s2.data.toList, pt, s5.data.toList⟩ = false → (-5 ≤ pt ∧ pt ≤ 21) ∧ text ⟨ng, s1.data.toList, s2.data.toList, pt, s5.data.toList⟩ = sgB1 ng ++ Num.part (plc d pt) (plq pt) (plc d pt).length) := hide (fun h1 h2 => by
    obtain ⟨_, e2, e3, e4⟩ := sci_false h2
    refine ⟨⟨e3, e4⟩, ?_⟩
    rw [← part_done h1]
    unfold text canonT
    have e5 : (⟨ng, s1.data.toList, s2.data.toList, pt, s5.data.toList⟩ : Nm).ip ++ (⟨ng, s1.data.toList, s2.data.toList, pt, s5.data.toList⟩ : Nm).fp = d := hd
    rw [e5, isE_false h1, h2, e2]
    rfl)
  have HSC : Hid (sciOf ⟨ng, s1.data.toList, s2.data.toList, pt, s5.data.toList⟩ = (!s5.data.toList.isEmpty || decide (pt < -5) || decide (21 < pt))) := hide rfl
  have HPV : Hid (pv ⟨ng, s1.data.toList, s2.data.toList, pt, s5.data.toList⟩ = if s5.data.toList.isEmpty then pt else bigOf s5.data.toList) := hide rfl
  generalize text ⟨ng, s1.data.toList, s2.data.toList, pt, s5.data.toList⟩ = TX at *
  generalize pv ⟨ng, s1.data.toList, s2.data.toList, pt, s5.data.toList⟩ = PV at *
  generalize sciOf ⟨ng, s1.data.toList, s2.data.toList, pt, s5.data.toList⟩ = sc at *
  have hie := ie_list s5
  have HS0 := hide hsrc
  have HHP := hide hp2
  have HSD := hide hsd
  clear hsrc hd hDl hp2 hsd
  go_enter Tryd.func26, Tryd.ntmps26
  go_upto_region 2 with fail

  clear hD
  by_cases h0 : d.length = 0
  · have HTE := hide (TE.out (List.length_eq_zero_iff.1 h0))
    have hz : ((d.length : Int) == 0) = true := by rw [h0]; rfl
    clear h0
    go_wp2_with (at_builtin; refine wpList_put1 _ rfl _ _ rfl B _ _ rfl HS0.out hB 48 48 rfl _ (by simp) rfl (by omega) ?_)
    intro v2 w2 ho2 hk2
    have HO2 := hide ho2
    have HK2 := hide hk2
    clear ho2 hk2
    go_wp2
    go_ret
    exact ⟨_, rfl, by rw [HTE.out]; exact .inl HO2.out, HK2.out⟩
  · have hd1 : 1 ≤ d.length := by omega
    have hdne : d ≠ [] := fun e => h0 (by rw [e]; rfl)
    have hz : ((d.length : Int) == 0) = false := by rw [beq_eq_false_iff_ne]; omega
    go_upto_if 33 with fail
    go_cut [0] from 23 (fun u wx => Src wx B u (xs ++ sgB1 ng) ∧ Kp B w wx)
    case first =>
      cases ng with
      | true =>
        go_wp2_with (at_builtin; refine wpList_put1 _ rfl _ _ rfl B _ _ rfl HS0.out hB 45 45 rfl _ (by simp) rfl (by omega) ?_)
        intro v2 w2 ho2 hk2
        have HO2 := hide ho2
        have HK2 := hide hk2
        clear ho2 hk2
        go_wp2
        go_meet
        case rel => exact ⟨.inl HO2.out, HK2.out⟩
      | false =>
        go_wp2
        go_meet
        case rel => exact ⟨by show Src _ B _ (xs ++ []); rw [List.append_nil]; exact HS0.out, Kp.refl _ _⟩
    case rest =>
    obtain ⟨hs2, hk2⟩ := hcut
    have hsg : (sgB1 ng).length ≤ 1 := by unfold sgB1; split <;> simp
    obtain ⟨X, hX⟩ : ∃ X, X = xs ++ sgB1 ng := ⟨_, rfl⟩
    rw [← hX] at hs2
    have hlX : X.length ≤ 1048577 := by rw [hX, List.length_append]; omega
    have HXX := hide hX
    have HS2 := hide hs2
    have HK2 := hide hk2
    clear hs2 hk2 hX hsg HS0
    go_upto_region 7 with fail
    go_cut [46] from 23 (fun b wx => b = .bool (!sc) ∧ wc = wx)
    case first =>
      cases hbe : s5.data.toList.isEmpty with
      | false =>
        rw [hbe] at hie
        have HC := hide (show sc = true by rw [HSC.out, hbe]; rfl)
        clear hbe
        go_wp2
        go_meet
        case rel => exact ⟨by rw [HC.out]; rfl, rfl⟩
      | true =>
        rw [hbe] at hie
        by_cases h5 : pt < -5
        · have HC := hide (show sc = true by rw [HSC.out, hbe, decide_eq_true h5]; rfl)
          clear hbe
          go_wp2
          go_meet
          case rel => exact ⟨by rw [HC.out]; rfl, rfl⟩
        · by_cases h6 : 21 < pt
          · have HC := hide (show sc = true by rw [HSC.out, hbe, decide_eq_true h6, Bool.or_true])
            clear hbe
            go_wp2
            go_meet
            case rel => exact ⟨by rw [HC.out, decide_eq_false (by omega)]; rfl, rfl⟩
          · have HC := hide (show sc = false by rw [HSC.out, hbe, decide_eq_false h5, decide_eq_false h6]; rfl)
            clear hbe
            go_wp2
            go_meet
            case rel => exact ⟨by rw [HC.out]; rfl, rfl⟩
    case rest =>
    obtain ⟨rfl, rfl⟩ := hcut
    cases sc with
    | false =>
      obtain ⟨⟨hlo, hhi⟩, hTX⟩ := TP.out hdne rfl
      have HTX := hide hTX
      have hE := plc_len d pt
      have hq : (plq pt : Int) = if pt ≤ 0 then 1 else pt := by unfold plq; split <;> omega
      have HAD := hide (fun t m (ht : t < (plc d pt).length) hm hmd => plc_at_dig (d := d) (p := pt) (t := t) (m := m) ht hm hmd)
      have HAZ := hide (fun t (ht : t < (plc d pt).length) hm => plc_at_zero (d := d) (p := pt) (t := t) ht hm)
      clear TE TS TP hTX h0
      generalize plc d pt = E at *
      generalize plq pt = q at *
      have hTq : ((q : Int) - E.length) = if pt - d.length ≤ 0 then pt - d.length else 0 := by
        rw [hE, hq]
        split <;> split <;> (try split) <;> omega
      have hEl : E.length ≤ 1048700 := by
        split at hE
        · omega
        · split at hE <;> omega
      have hq1 : (q : Int) - 1 = if pt - 1 < 0 then 0 else pt - 1 := by
        rw [hq]
        split <;> split <;> omega
      have HHQ := hide hq
      clear hE hq
      go_upto_if 51 with fail
      go_cut [16] from 47 (fun a wx => a = .int .i64 ((q : Int) - 1) ∧ wc = wx)
      case first =>
        by_cases hh : pt - 1 < 0
        · rw [if_pos hh] at hq1
          have HQ1 := hide hq1
          clear hq1 hTq
          go_wp2
          go_meet
          case rel => exact ⟨by rw [HQ1.out], rfl⟩
        · rw [if_neg hh] at hq1
          have HQ1 := hide hq1
          clear hq1 hTq
          go_wp2
          go_meet
          case rel => exact ⟨by rw [HQ1.out], rfl⟩
      case rest =>
      obtain ⟨rfl, rfl⟩ := hcut
      clear hq1
      go_upto_if 56 with fail
      go_cut [17] from 47 (fun a wx => a = .int .i64 ((q : Int) - E.length) ∧ wc = wx)
      case first =>
        by_cases hh : 0 < pt - d.length
        · rw [if_neg (by omega)] at hTq
          have HQ1 := hide hTq
          clear hTq
          go_wp2
          go_meet
          case rel => exact ⟨by rw [HQ1.out], rfl⟩
        · rw [if_pos (by omega)] at hTq
          have HQ1 := hide hTq
          clear hTq
          go_wp2
          go_meet
          case rel => exact ⟨by rw [HQ1.out], rfl⟩
      case rest =>
      obtain ⟨rfl, rfl⟩ := hcut
      clear hTq
      have hq0 : 1 ≤ q ∧ q ≤ 21 := by
        have := HHQ.out
        split at this <;> omega
      obtain ⟨hq1, hq2⟩ := hq0
      have HZR := hide (fun t (h1 : t < E.length) => part_step E q t h1)
      go_wp2_with fail
      go_loopw [0, 18] (fun u j wr => ∃ t : Nat, t ≤ E.length ∧ j = .int .i64 ((q : Int) - 1 - (t : Int)) ∧ Src wr B u (X ++ Num.part E q t) ∧ Kp B w wr) (fun _ j _ => (intOf j + E.length + 1 - q).toNat)
      case atStart => exact ⟨0, Nat.zero_le _, by go_num, by rw [part_zero, List.append_nil]; exact HS2.out, HK2.out⟩
      case round =>
        obtain ⟨t, ht, rfl, hs, hk⟩ := hrel
        have hpl := part_len E q t
        have HS := hide hs
        have HK := hide hk
        clear hs hk
        by_cases h1 : t < E.length
        · have HST := hide (HZR.out t h1)
          generalize Num.part E q t = PT at *
          go_upto_if 64 with fail
          go_cut [0] from 58 to 87 (fun u wx => Src wx B u (X ++ (PT ++ if t = q then [46] else [])) ∧ Kp B w wx)
          case first =>
            by_cases h2 : t = q
            · have hj : (((q : Int) - 1 - (t : Int)) == -1) = true := by rw [beq_iff_eq]; omega
              have H2 := hide h2
              clear h2
              go_wp2_with (at_builtin; refine wpList_put1 _ rfl _ _ rfl B _ _ rfl HS.out (Nat.le_trans hB HK.out.size) 46 46 rfl _ (by simp) rfl (by simp; omega) ?_)
              intro v4 w4 ho4 hk4
              have HO4 := hide ho4
              have HK4 := hide (HK.out.trans hk4)
              clear ho4 hk4
              go_wp2
              go_meet
              case rel => exact ⟨by rw [if_pos H2.out]; exact .inl (by simpa using HO4.out), HK4.out⟩
            · have hj : (((q : Int) - 1 - (t : Int)) == -1) = false := by rw [beq_eq_false_iff_ne]; omega
              have H2 := hide h2
              clear h2
              go_wp2
              go_meet
              case rel => exact ⟨by rw [if_neg H2.out, List.append_nil]; exact HS.out, HK.out⟩
          case rest =>
          obtain ⟨hs4, hk4⟩ := hcut
          have hpd : (if t = q then [46] else ([] : List UInt8)).length ≤ 1 := by split <;> simp
          obtain ⟨PD, hPD⟩ : ∃ PD, PD = PT ++ (if t = q then [46] else []) := ⟨_, rfl⟩
          rw [← hPD] at hs4
          have hlPD : PD.length ≤ t + 2 := by rw [hPD, List.length_append]; omega
          have HST2 := hide (HST.out.trans (by rw [← hPD]) : Num.part E q (t + 1) = PD ++ [E[t]])
          have HS4 := hide hs4
          have HK4 := hide hk4
          clear hs4 hk4 hPD hpd HST HS HK
          by_cases hin : 0 ≤ pt - q + t ∧ pt - q + t < d.length
          · obtain ⟨hin1, hin2⟩ := hin
            obtain ⟨m, hm⟩ : ∃ m : Nat, (m : Int) = pt - q + t := ⟨(pt - q + t).toNat, by omega⟩
            have hmd : m < d.length := by omega
            have hmD : m < D.size := by omega
            have hget := HG.out m hmd hmD
            have HE := hide (HAD.out t m h1 hm hmd)
            have hix : pt - 1 - ((q : Int) - 1 - (t : Int)) = (m : Int) := by omega
            clear hm hin1 hin2
            go_wp2_with (at_builtin; refine wpList_put1 _ rfl _ _ rfl B _ _ rfl HS4.out (Nat.le_trans hB HK4.out.size) d[m] _ rfl _ (by simp) rfl (by simp; omega) ?_)
            intro v5 w5 ho5 hk5
            have HO5 := hide ho5
            have HK5 := hide (HK4.out.trans hk5)
            clear ho5 hk5
            go_wp2
            refine ⟨⟨_, _, _, _, _, _, _, _, _, _, _, _, _, _, _, _, _, _, _, _, _, _, _, _, _, _, _, _, _, _, _, _, _, ?rel, rfl⟩, ?measure⟩
            case rel => exact ⟨t + 1, h1, by go_num, by rw [HST2.out, HE.out]; exact .inl (by simpa using HO5.out), HK5.out⟩
            case measure => simp [intOf]; omega
          · have HE := hide (HAZ.out t h1 (by omega))
            by_cases hneg : pt - q + t < 0
            · have hix : pt - 1 - ((q : Int) - 1 - (t : Int)) < 0 := by omega
              go_wp2_with (at_builtin; refine wpList_put1 _ rfl _ _ rfl B _ _ rfl HS4.out (Nat.le_trans hB HK4.out.size) 48 48 rfl _ (by simp) rfl (by simp; omega) ?_)
              intro v5 w5 ho5 hk5
              have HO5 := hide ho5
              have HK5 := hide (HK4.out.trans hk5)
              clear ho5 hk5
              go_wp2
              refine ⟨⟨_, _, _, _, _, _, _, _, _, _, _, _, _, _, _, _, _, _, _, _, _, _, _, _, _, _, _, _, _, _, _, _, _, ?rel, rfl⟩, ?measure⟩
              case rel => exact ⟨t + 1, h1, by go_num, by rw [HST2.out, HE.out]; exact .inl (by simpa using HO5.out), HK5.out⟩
              case measure => simp [intOf]; omega
            · have hix : (d.length : Int) ≤ pt - 1 - ((q : Int) - 1 - (t : Int)) := by omega
              go_wp2_with (at_builtin; refine wpList_put1 _ rfl _ _ rfl B _ _ rfl HS4.out (Nat.le_trans hB HK4.out.size) 48 48 rfl _ (by simp) rfl (by simp; omega) ?_)
              intro v5 w5 ho5 hk5
              have HO5 := hide ho5
              have HK5 := hide (HK4.out.trans hk5)
              clear ho5 hk5
              go_wp2
              refine ⟨⟨_, _, _, _, _, _, _, _, _, _, _, _, _, _, _, _, _, _, _, _, _, _, _, _, _, _, _, _, _, _, _, _, _, ?rel, rfl⟩, ?measure⟩
              case rel => exact ⟨t + 1, h1, by go_num, by rw [HST2.out, HE.out]; exact .inl (by simpa using HO5.out), HK5.out⟩
              case measure => simp [intOf]; omega
        · obtain rfl : t = E.length := by omega
          have HEQ := hide (show X ++ Num.part E q E.length = xs ++ TX by rw [HTX.out, HXX.out, List.append_assoc])
          go_wp2
          go_ret
          exact ⟨_, rfl, by rw [← HEQ.out]; exact HS.out, HK.out⟩
    | true =>
      have HTX := hide (TS.out hdne rfl)
      have h0D : 0 < D.size := by omega
      have h0d : 0 < d.length := by omega
      have hget0 := HG.out 0 h0d h0D
      have ht1 : d.take 1 = [d[0]] := by
        have := List.take_succ_eq_append_getElem h0d
        simpa using this
      have HT1 := hide ht1
      clear TE TS TP h0 ht1
      go_wp2_with (at_builtin; refine wpList_put1 _ rfl _ _ rfl B _ _ rfl HS2.out (Nat.le_trans hB HK2.out.size) d[0] _ rfl _ (by simp) rfl (by omega) ?_)
      intro v3 w3 ho3 hk3
      rw [← HT1.out] at ho3
      have hl3 : (X ++ d.take 1).length ≤ 1048580 := by rw [List.length_append, List.length_take]; omega
      obtain ⟨X3, hX3⟩ : ∃ X3, X3 = X ++ d.take 1 := ⟨_, rfl⟩
      rw [← hX3] at ho3 hl3
      have HX3 := hide hX3
      have HO3 := hide ho3
      have HK3 := hide (HK2.out.trans hk3)
      clear ho3 hk3 hX3 hget0
      go_upto_if 95 with fail
      go_cut [0] from 89 (fun u wx => Src wx B u (X3 ++ if 1 < d.length then 46 :: d.drop 1 else []) ∧ Kp B w wx)
      case first =>
        by_cases h1 : 1 < d.length
        · go_wp2_with (at_builtin; refine wpList_put1 _ rfl _ _ rfl B _ _ rfl (.inl HO3.out) (Nat.le_trans hB HK3.out.size) 46 46 rfl _ (by simp) rfl (by omega) ?_)
          intro v4 w4 ho4 hk4
          have HO4 := hide ho4
          have HK4 := hide (HK3.out.trans hk4)
          clear ho4 hk4
          go_wp2_with fail
          go_loopw [0, 20] (fun u i wr => ∃ k : Nat, 1 ≤ k ∧ k ≤ d.length ∧ i = .int .i64 (k : Int) ∧ Src wr B u (X3 ++ 46 :: (d.take k).drop 1) ∧ Kp B w wr) (fun _ i _ => d.length - (intOf i).toNat)
          case atStart =>
            refine ⟨1, Nat.le_refl _, by omega, rfl, ?_, HK4.out⟩
            rw [List.drop_eq_nil_of_le (by rw [List.length_take]; omega)]
            exact .inl HO4.out
          case round =>
            obtain ⟨k, hk1, hk, rfl, hs5, hk5⟩ := hrel
            have HS5 := hide hs5
            have HK5 := hide hk5
            clear hs5 hk5
            by_cases h2 : k < d.length
            · have hkD : k < D.size := by omega
              have hget := HG.out k h2 hkD
              go_wp2_with (at_builtin; refine wpList_put1 _ rfl _ _ rfl B _ _ rfl HS5.out (Nat.le_trans hB HK5.out.size) d[k] _ rfl _ (by simp) rfl (by simp; omega) ?_)
              intro v6 w6 ho6 hk6
              have HO6 := hide ho6
              have HK6 := hide (HK5.out.trans hk6)
              have HTN := hide (take_next (a := 1) hk1 h2)
              clear ho6 hk6
              go_wp2
              exact ⟨⟨k + 1, by omega, h2, by go_num, by rw [HTN.out]; exact .inl (by simpa using HO6.out), HK6.out⟩, by simp [intOf]; omega⟩
            · obtain rfl : k = d.length := by omega
              have HEQ := hide (show X3 ++ (if 1 < d.length then 46 :: d.drop 1 else []) = X3 ++ 46 :: (d.take d.length).drop 1 by rw [if_pos h1, List.take_length])
              go_wp2
              go_meet
              case rel => exact ⟨by rw [HEQ.out]; exact HS5.out, HK5.out⟩
        · go_wp2
          go_meet
          case rel => exact ⟨by rw [if_neg (by omega), List.append_nil]; exact .inl HO3.out, HK3.out⟩
      case rest =>
      obtain ⟨hs4, hk4⟩ := hcut
      have hl4 : (X3 ++ if 1 < d.length then 46 :: d.drop 1 else []).length ≤ 2097200 := by
        rw [List.length_append]
        split
        · simp only [List.length_cons, List.length_drop]; omega
        · simp only [List.length_nil]; omega
      obtain ⟨X4, hX4⟩ : ∃ X4, X4 = X3 ++ if 1 < d.length then 46 :: d.drop 1 else [] := ⟨_, rfl⟩
      rw [← hX4] at hs4 hl4
      have HEQ := hide (show X4 ++ [101] ++ sgnText (PV - 1) = xs ++ TX by rw [HTX.out, hX4, HX3.out, HXX.out]; simp)
      have HS4 := hide hs4
      have HK4 := hide hk4
      clear hs4 hk4 hX4 HTX HX3 HO3 HK3
      go_wp2_with (at_builtin; refine wpList_put1 _ rfl _ _ rfl B _ _ rfl HS4.out (Nat.le_trans hB HK4.out.size) 101 101 rfl _ (by simp) rfl (by omega) ?_)
      intro v5 w5 ho5 hk5
      have HO5 := hide ho5
      have HK5 := hide (HK4.out.trans hk5)
      have hl5 : (X4 ++ [101]).length ≤ 2097201 := by rw [List.length_append]; simp; omega
      clear ho5 hk5
      cases hbe : s5.data.toList.isEmpty with
      | true =>
        rw [hbe] at hie
        have hPV := HPV.out
        rw [hbe, if_pos rfl] at hPV
        subst hPV
        have hp3 := HHP.out (by simpa using hbe)
        clear hbe
        have H35 := hide (zzAppendSigned_any v5 (X4 ++ [101]) (PV - 1) B w5 (.inl HO5.out) (Nat.le_trans hB HK5.out.size) (by omega) (by omega) (by omega))
        go_wp2_with fail
        refine H35.out.mono ?_
        rintro e w6 ⟨v6, rfl, hs6, hk6⟩
        rw [HEQ.out] at hs6
        have HS6 := hide hs6
        have HK6 := hide (HK5.out.trans hk6)
        clear hs6 hk6
        go_wp2
        go_ret
        exact ⟨_, rfl, HS6.out, HK6.out⟩
      | false =>
        rw [hbe] at hie
        have hPV := HPV.out
        rw [hbe, if_neg (by decide)] at hPV
        have hsd5 : sd s5.data.toList = true := by
          rcases HSD.out with e | e
          · rw [e] at hbe; exact absurd hbe (by decide)
          · exact e
        have H36 := hide (zzMinusOne_any s5 w5 (by omega) hsd5)
        rw [← hPV] at H36
        have HTD := hide (show ∃ u, sgnText (PV - 1) = u :: decDigits (PV - 1).natAbs from ⟨_, rfl⟩)
        have hTL : (decDigits (PV - 1).natAbs).length ≤ 1048600 := by
          have hf : Fit 1048576 ⟨ng, [], [], 0, s5.data.toList⟩ := ⟨by simp, by show s5.data.toList.length ≤ _; rw [len_data]; omega, (sd_facts hsd5).2.2, by show (-9223372036854775807 : Int) ≤ 0; decide, by show (0 : Int) ≤ 9223372036854775807; decide⟩
          have h1 := sgnText_len _ hf
          have h2 : pv ⟨ng, [], [], 0, s5.data.toList⟩ = PV := by unfold pv; rw [hPV]; show (if s5.data.toList.isEmpty = true then (0 : Int) else _) = _; rw [hbe]; rfl
          rw [h2] at h1
          unfold sgnText at h1
          rw [List.length_cons] at h1
          have h3 : (⟨ng, [], [], 0, s5.data.toList⟩ : Nm).bp.length = s5.size := len_data s5
          omega
        have hTN := dec_len_pos (PV - 1).natAbs
        clear hbe hPV hsd5
        go_wp2_with fail
        refine H36.out.mono ?_
        rintro e w6 ⟨sg, ys, k, cap, htx, rfl, hy, hg, hb6⟩
        obtain ⟨u, hu⟩ := HTD.out
        have hys : ys = decDigits (PV - 1).natAbs := by rw [htx] at hu; injection hu
        subst hys
        have HO6 := hide (HO5.out.below hb6)
        have HK6 := hide (HK5.out.trans (Kp.of hb6 (Nat.le_trans hB HK5.out.size)))
        have HY := hide hy
        have HTX2 := hide htx
        have hlt5 := fun g e => (World.ownsRow.lt HO5.out g e).2
        clear hb6 hy htx hu HTD H36
        generalize decDigits (PV - 1).natAbs = ys at *
        have HEQ2 := hide (show X4 ++ [101] ++ [sg] ++ ys = xs ++ TX by rw [← HEQ.out, HTX2.out]; simp)
        obtain ⟨ti, hti, htz, hts, htb⟩ := info_parts info5
        go_wp2_with (at_builtin; refine wpList_append_own _ rfl _ _ 33 rfl B 5 ti (.int .u8 0) 1 1 Tryd.underlying33 hti htz hts htb rfl (by decide) _ _ _ rfl (World.ownsRow.alloc HO6.out _) ⟨w6.heap.size, 0, none⟩ 1 1 [.int .u8 (sg.toNat : Int)] rfl rfl (cell_one_new _ _ _) (by simp [Value.oneCell']) (by unfold maxLen; omega) (by omega) (by have := HK6.out.size; simp; omega) ?_)
        intro v7 w7 ho7 hg7 _
        have HO7 : Hid (Out w7 B v7 (X4 ++ [101] ++ [sg])) := hide (by
          have e : (X4 ++ [101] ++ [sg]).length = X4.length + 1 + 1 := by simp
          unfold Out
          rw [e, bv_append]
          exact ho7)
        have HK7 := hide (HK6.out.trans ⟨((Below.refl B w6).alloc (Nat.le_trans hB HK6.out.size) _).grown hg7 (by have := HK6.out.size; simp; omega) (fun g e => (World.ownsRow.lt HO6.out g e).1), ((Lib.OthersKept.refl 5 none w6).alloc _).grown hg7 (Lib.ownsRow_kind (World.ownsRow.alloc HO6.out _))⟩)
        have HY7 : Hid (∀ j u, (bv ys)[j]? = some u → w7.cell? ((⟨w5.heap.size, k, none⟩ : Addr).add j) = some u) := hide (fun j u hj => by
          have e : (⟨w5.heap.size, k, none⟩ : Addr).add j = ⟨w5.heap.size, k + j, none⟩ := by unfold Addr.add; split <;> simp_all
          have h6 := HY.out j u hj
          rw [e] at h6 ⊢
          refine hg7.cell ?_ ?_
          · rw [((Below.refl w6.heap.size w6).alloc (Nat.le_refl _) _).cell (p := ⟨w5.heap.size, k + j, none⟩) hg]
            exact h6
          · intro hne
            have := hlt5 w5.heap.size hne.symm
            omega)
        clear ho7 hg7
        go_wp2_with (at_builtin; refine wpList_putRow _ rfl _ _ rfl B _ _ rfl (.inl HO7.out) (Nat.le_trans hB HK7.out.size) ⟨w5.heap.size, k, none⟩ ys.length _ ys rfl rfl HY7.out (by omega) (by simp; omega) ?_)
        intro v8 w8 ho8 hk8
        have HO8 : Hid (Out w8 B v8 (X4 ++ [101] ++ [sg] ++ ys)) := hide (by simpa using ho8)
        have HK8 := hide (HK7.out.trans hk8)
        clear ho8 hk8
        go_wp2
        go_ret
        exact ⟨_, rfl, by rw [← HEQ2.out]; exact .inl HO8.out, HK8.out⟩

end Go.Proofs.Qxb6601790aDoor
