/-
  FnSignificandMatchesDigitModel: the walk.
-/
import Derived.Test.Qxb6602829aDoorWb
import Derived.Deep.QuietTactic
import Derived.BigQuiet
import Derived.WalkLawsBesides
namespace Go.Proofs.Qxb6602829aDoor
open Go.RowKit Pl

/-! ### The bytes of the two texts, where the significant ones stand -/
theorem at_zero {I F : ByteArray} (h : I.data.toList ++ F.data.toList = zs (I.data.toList ++ F.data.toList).length) {i : Nat} (hi : i < I.size + F.size) : at2 I F i = 48 := by
  unfold at2
  rw [h, List.getD, zs, List.getElem?_replicate, if_pos (by rw [List.length_append, ← Lib.size_eq, ← Lib.size_eq]; exact hi)]; rfl
theorem tot_eq {I F : ByteArray} {p r : Nat} {S : List UInt8} (h : I.data.toList ++ F.data.toList = zs p ++ S ++ zs r) : I.size + F.size = p + S.length + r := by
  have := congrArg List.length h
  simp only [List.length_append, zs_length, ← Lib.size_eq] at this
  exact this
theorem at_lead {I F : ByteArray} {p r : Nat} {S : List UInt8} (h : I.data.toList ++ F.data.toList = zs p ++ S ++ zs r) {i : Nat} (hi : i < p) : at2 I F i = 48 := by
  unfold at2
  rw [h, List.getD, List.append_assoc, List.getElem?_append_left (by rw [zs_length]; exact hi), zs, List.getElem?_replicate, if_pos hi]; rfl
theorem at_mid {I F : ByteArray} {p r : Nat} {S : List UInt8} (h : I.data.toList ++ F.data.toList = zs p ++ S ++ zs r) {i : Nat} (hi : i < S.length) : at2 I F (p + i) = S[i] := by
  unfold at2
  rw [h, List.getD, List.append_assoc, List.getElem?_append_right (by rw [zs_length]; omega), zs_length, show p + i - p = i by omega, List.getElem?_append_left hi, List.getElem?_eq_getElem hi]; rfl
theorem at_trail {I F : ByteArray} {p r : Nat} {S : List UInt8} (h : I.data.toList ++ F.data.toList = zs p ++ S ++ zs r) {i : Nat} (h1 : p + S.length ≤ i) (h2 : i < p + S.length + r) : at2 I F i = 48 := by
  unfold at2
  rw [h, List.getD, List.getElem?_append_right (by rw [List.length_append, zs_length]; omega), List.length_append, zs_length, zs, List.getElem?_replicate, if_pos (by omega)]; rfl
theorem at_first {I F : ByteArray} {p r : Nat} {S : List UInt8} (h : I.data.toList ++ F.data.toList = zs p ++ S ++ zs r) (h0 : 0 < S.length) (hh : S.head? ≠ some 48) : at2 I F p ≠ 48 := by
  have := at_mid h h0
  rw [Nat.add_zero] at this
  rw [this]
  intro e
  apply hh
  rw [List.head?_eq_getElem?, List.getElem?_eq_getElem h0, e]
theorem at_last {I F : ByteArray} {p r : Nat} {S : List UInt8} (h : I.data.toList ++ F.data.toList = zs p ++ S ++ zs r) (h0 : 0 < S.length) (hh : S.getLast? ≠ some 48) : at2 I F (p + S.length - 1) ≠ 48 := by
  have := at_mid h (show S.length - 1 < S.length by omega)
  rw [show p + (S.length - 1) = p + S.length - 1 by omega] at this
  rw [this]
  intro e
  apply hh
  rw [List.getLast?_eq_getElem?, List.getElem?_eq_getElem (by omega), e]

theorem head_eq {I F : ByteArray} {p r : Nat} {H T : List UInt8} (h : I.data.toList ++ F.data.toList = zs p ++ (H ++ T) ++ zs r) {k : Nat} (hk : k < H.length) (hk' : k < (⟨H.toArray⟩ : ByteArray).size) : (⟨H.toArray⟩ : ByteArray)[k] = at2 I F (p + k) := by
  rw [at_mid h (show k < (H ++ T).length by rw [List.length_append]; omega), List.getElem_append_left hk]; rfl
theorem tail_eq {I F : ByteArray} {p r : Nat} {H T : List UInt8} (h : I.data.toList ++ F.data.toList = zs p ++ (H ++ T) ++ zs r) {k : Nat} (hk : k < T.length) (hk' : k < (⟨T.toArray⟩ : ByteArray).size) : (⟨T.toArray⟩ : ByteArray)[k] = at2 I F (p + H.length + k) := by
  rw [show p + H.length + k = p + (H.length + k) by omega, at_mid h (show H.length + k < (H ++ T).length by rw [List.length_append]; omega), List.getElem_append_right (by omega)]
  simp only [show H.length + k - H.length = k by omega]; rfl

theorem byte_yes {c : UInt8} (h : c = 48) : ((c.toNat : Int) == 48) = true := by rw [h]; rfl
theorem byte_no {c : UInt8} (h : c ≠ 48) : ((c.toNat : Int) == 48) = false := by
  rw [beq_eq_false_iff_ne]; intro e; exact h (UInt8.toNat_inj.1 (by show c.toNat = 48; omega))

theorem agrees_true {X : List UInt8} {E : Nat} {ne : Bool} {adj : Int} (hE : Exp X E) (h0 : -1048576 ≤ adj) (h1 : adj ≤ 1048576) : agrees ((if ne then -(E : Int) else E) + adj) (expV X) (expB X) ne adj = true := by
  unfold agrees
  rw [expV_eq, expB_eq]
  by_cases hb : 1125899906842624 ≤ val X
  · have := hE.big hb
    rw [decide_eq_true hb, if_pos rfl]
    cases ne
    · simp only [Bool.false_eq_true, if_false]; rw [decide_eq_true_eq]; omega
    · simp only [if_true]; rw [decide_eq_true_eq]; omega
  · have hs := hE.small (by omega)
    have hlt : val X < 1125899906842624 := by omega
    rw [decide_eq_false hb, if_neg (by decide), if_pos hlt, hs]
    simp
theorem expV_bounds (X : List UInt8) : 0 ≤ expV X ∧ expV X ≤ 1125899906842624 := by rw [expV_eq]; split <;> omega

set_option maxHeartbeats 4000000 in
set_option maxRecDepth 100000 in
theorem law_main (n ne : Bool) (I F X : ByteArray) (w : World) (hsum : I.size + F.size + X.size ≤ 1048576) (hI : allD I.data.toList = true) (hF : allD F.data.toList = true) (hX : allD X.data.toList = true) :
    Calls Tryd.prog 3 #[.bool n, .string I, .string F, .bool ne, .string X] w fun e w' => e = .returned (.bool true) ∧ Below w.heap.size w w' := by
  have H5 := hide (And.intro (zzAllDigits_any I w (by unfold maxLen; omega)) (And.intro (zzAllDigits_any F w (by unfold maxLen; omega)) (zzAllDigits_any X w (by unfold maxLen; omega))))
  rw [hI, hF, hX] at H5
  have H6 := hide (zzSig_any n ne I F X w (by omega) (by omega) (by omega) hX)
  have H7 := hide (fun wx => zzExponentModel_any X wx (by omega) hX)
  have H8 := hide (fun (i : Int) wx h0 h1 => zzDigitAt_any I F i wx h0 h1 (by omega) (by omega))
  have H9 := hide (fun (sc adj : Int) wx h0 h1 => scaleAgrees_any sc (expV X.data.toList) adj (expB X.data.toList) ne wx (expV_bounds _).1 (expV_bounds _).2 h0 h1)
  clear hI hF hX
  have b1 : I.size ≤ 1048576 := by omega
  have b2 : F.size ≤ 1048576 := by omega
  have b3 : X.size ≤ 1048576 := by omega
  go_enter Tryd.func3, Tryd.ntmps3
  go_wp2_with (first | (go_at_call 4; go_in) | fail)
  refine H5.out.1.mono ?_
  rintro e w1 ⟨rfl, rfl⟩
  go_wp2_with fail
  refine H5.out.2.1.mono ?_
  rintro e w1 ⟨rfl, rfl⟩
  go_wp2_with fail
  refine H5.out.2.2.mono ?_
  rintro e w1 ⟨rfl, rfl⟩
  go_wp2_with fail
  refine H6.out.mono ?_
  rintro e w2 ⟨⟨H, T, adj, E, hSg, hE, rfl⟩, hb2⟩
  have HB2 := hide hb2
  have HE := hide hE
  clear hb2
  obtain ⟨SE, hSE⟩ : ∃ SE : Int, (if ne then -(E : Int) else E) + adj = SE := ⟨_, rfl⟩
  rw [hSE]
  have HSE := hide hSE
  clear hSE hE
  go_wp2_with fail
  refine (H7.out _).mono ?_
  rintro e w3 ⟨rfl, rfl⟩
  generalize hEV : expV X.data.toList = EV at *
  generalize hEB : expB X.data.toList = EB at *
  have HEV := hide hEV
  have HEB := hide hEB
  clear hEV hEB
  go_wp2_with fail
  rcases hSg with ⟨rfl, rfl, rfl, hD⟩ | ⟨p, r, hD, hh, hl, hpos, hadj, hcase⟩
  · have HD := hide hD
    clear hD
    go_loop [17] (fun v => ∃ a : Nat, a ≤ I.size + F.size ∧ v = .int .i64 a) (fun v => I.size + F.size - (intOf v).toNat)
    case atStart => exact ⟨0, by omega, rfl⟩
    case round =>
      obtain ⟨a, ha, rfl⟩ := hrel
      by_cases hlt : a < I.size + F.size
      · have HZ := hide (byte_yes (at_zero HD.out hlt))
        go_wp2_with fail
        refine (H8.out (a : Int) _ (by omega) (by omega)).mono ?_
        rintro e w4 ⟨rfl, rfl⟩
        rw [Int.toNat_natCast]
        have hz := HZ.out
        go_wp2_with fail
        go_round
        case rel => exact ⟨a + 1, by omega, by go_num⟩
        case measure => simp [intOf]; omega
      · obtain rfl : a = I.size + F.size := by omega
        go_wp2_with fail
        refine wp_loop_rounds 1 ?_
        rw [rounds_succ]
        go_wp2_with fail
        refine (H9.out SE 0 _ (by omega) (by omega)).mono ?_
        rintro e w4 ⟨rfl, rfl⟩
        have HAG := hide (agrees_true (ne := ne) (adj := 0) HE.out (by omega) (by omega))
        go_wp2_with fail
        go_ret
        refine ⟨ret_bool ?_, HB2.out⟩
        have := HAG.out
        rw [HSE.out, HEV.out, HEB.out] at this
        exact this
  · have htot := tot_eq hD
    have HD := hide hD
    have HFI := hide (byte_no (at_first hD hpos hh))
    have HLA := hide (byte_no (at_last hD hpos hl))
    have HC := hide hcase
    have HADJ := hide hadj
    have HSL := hide (show (H ++ T).length = H.length + T.length from List.length_append)
    have hadj0 : -1048576 ≤ adj := by rw [hadj, ← Lib.size_eq]; omega
    have hadj1 : adj ≤ 1048576 := by rw [hadj, ← Lib.size_eq]; omega
    have HAG := hide (agrees_true (ne := ne) (adj := adj) HE.out hadj0 hadj1)
    clear hD hh hl hcase hadj
    generalize hS : (H ++ T).length = S at *
    have HS2 := hide hS
    have hS1 : S ≤ H.length + T.length := Nat.le_of_eq HSL.out
    have hS0 : H.length + T.length ≤ S := Nat.le_of_eq HSL.out.symm
    clear hS
    go_loop [17] (fun v => ∃ a : Nat, a ≤ p ∧ v = .int .i64 a) (fun v => p - (intOf v).toNat)
    case atStart => exact ⟨0, by omega, rfl⟩
    case round =>
      obtain ⟨a, ha, rfl⟩ := hrel
      by_cases hlt : a < p
      · have HZ := hide (byte_yes (at_lead HD.out hlt))
        go_wp2_with fail
        refine (H8.out (a : Int) _ (by omega) (by omega)).mono ?_
        rintro e w4 ⟨rfl, rfl⟩
        rw [Int.toNat_natCast]
        have hz := HZ.out
        go_wp2_with fail
        go_round
        case rel => exact ⟨a + 1, by omega, by go_num⟩
        case measure => simp [intOf]; omega
      · obtain rfl : a = p := by omega
        go_wp2_with fail
        refine (H8.out (a : Int) _ (by omega) (by omega)).mono ?_
        rintro e w4 ⟨rfl, rfl⟩
        rw [Int.toNat_natCast]
        have hz := HFI.out
        go_wp2_with fail
        clear hz
        go_loop [18] (fun v => ∃ b : Nat, a + S ≤ b ∧ b ≤ I.size + F.size ∧ v = .int .i64 b) (fun v => (intOf v).toNat)
        case atStart => exact ⟨I.size + F.size, by omega, Nat.le_refl _, by go_num⟩
        case round =>
          obtain ⟨b, hb0, hb1, rfl⟩ := hrel
          by_cases hlt : a + S < b
          · have HZ := hide (byte_yes (at_trail HD.out (i := b - 1) (by rw [HS2.out]; omega) (by rw [HS2.out]; omega)))
            go_wp2_with fail
            refine (H8.out ((b : Int) - 1) _ (by omega) (by omega)).mono ?_
            rintro e w4 ⟨rfl, rfl⟩
            rw [show ((b : Int) - 1).toNat = b - 1 by omega]
            have hz := HZ.out
            go_wp2_with fail
            go_round
            case rel => exact ⟨b - 1, by omega, by omega, by go_num⟩
            case measure => simp [intOf]; omega
          · obtain rfl : b = a + S := by omega
            go_wp2_with fail
            refine (H8.out _ _ (by omega) (by omega)).mono ?_
            rintro e w4 ⟨rfl, rfl⟩
            rw [show ((a : Int) + (S : Int) - 1).toNat = a + S - 1 by omega]
            have hz := HLA.out
            have hcs : (T.length ≤ 0 ∧ I.size < a) ∨ (T.length ≤ 0 ∧ I.size ≤ a ∧ a ≤ I.size) ∨ (T.length ≤ 0 ∧ a + H.length < I.size) ∨ (T.length ≤ 0 ∧ a + H.length ≤ I.size ∧ I.size ≤ a + H.length) ∨ (0 < T.length ∧ 0 < H.length ∧ a + H.length ≤ I.size ∧ I.size ≤ a + H.length) := by
              have eI := Lib.size_eq I
              rcases HC.out with ⟨hT, hc⟩ | ⟨hT, hH, hc⟩
              · have : T.length = 0 := by rw [hT]; rfl
                omega
              · have := List.length_pos_iff.2 hT
                have := List.length_pos_iff.2 hH
                omega
            rcases hcs with ⟨c1, c2⟩ | ⟨c1, c2, c3⟩ | ⟨c1, c2⟩ | ⟨c1, c2, c3⟩ | ⟨c1, c2, c3, c4⟩
            all_goals
              go_wp2_with fail
              clear hz
              go_loopw [22] (fun v wx => ∃ k : Nat, k ≤ H.length ∧ v = .int .i64 k ∧ Below w1.heap.size w1 wx) (fun v _ => H.length - (intOf v).toNat)
              case atStart => exact ⟨0, by omega, rfl, HB2.out⟩
              case round =>
                obtain ⟨k, hk, rfl, hbk⟩ := hrel
                have HBK := hide hbk
                clear hbk
                by_cases hlt : k < H.length
                · have hHb : k < (⟨H.toArray⟩ : ByteArray).size := by rw [Lib.size_mk]; exact hlt
                  have HM := hide (head_eq HD.out hlt hHb)
                  have hne3 : (((⟨H.toArray⟩ : ByteArray)[k].toNat : Int) != ((at2 I F (a + k)).toNat : Int)) = false := by rw [HM.out]; simp
                  have hne4 : (((⟨H.toArray⟩ : ByteArray)[k].toNat : Int) != ((at2 I F ((a : Int) + (k : Int)).toNat).toNat : Int)) = false := by rw [show ((a : Int) + (k : Int)).toNat = a + k by omega]; exact hne3
                  go_wp2_with fail
                  go_quiet ((go_at_call 8; exact Calls.quiet_of_same (H8.out _ _ (by omega) (by omega))))
                  go_wp2_with fail
                  go_roundw
                  case rel => exact ⟨k + 1, by omega, by go_num, below_drewN HBK.out _⟩
                  case measure => simp [intOf]; omega
                · obtain rfl : k = H.length := by omega
                  go_wp2_with fail
                  go_loopw [23] (fun v wx => ∃ k : Nat, k ≤ T.length ∧ v = .int .i64 k ∧ Below w1.heap.size w1 wx) (fun v _ => T.length - (intOf v).toNat)
                  case atStart => exact ⟨0, by omega, rfl, HBK.out⟩
                  case round =>
                    obtain ⟨k, hk, rfl, hbk⟩ := hrel
                    have HBT := hide hbk
                    clear hbk
                    by_cases hlt : k < T.length
                    · first
                      | (exfalso; omega)
                      | (have hTb : k < (⟨T.toArray⟩ : ByteArray).size := by rw [Lib.size_mk]; exact hlt
                         have HM := hide (tail_eq HD.out hlt hTb)
                         have hne3 : (((⟨T.toArray⟩ : ByteArray)[k].toNat : Int) != ((at2 I F (a + H.length + k)).toNat : Int)) = false := by rw [HM.out]; simp
                         have hne4 : (((⟨T.toArray⟩ : ByteArray)[k].toNat : Int) != ((at2 I F ((a : Int) + (H.length : Int) + (k : Int)).toNat).toNat : Int)) = false := by rw [show ((a : Int) + (H.length : Int) + (k : Int)).toNat = a + H.length + k by omega]; exact hne3
                         have hne5 : (((⟨T.toArray⟩ : ByteArray)[k].toNat : Int) != ((at2 I F (a + (I.size - a) + k)).toNat : Int)) = false := by rw [show a + (I.size - a) + k = a + H.length + k by omega]; exact hne3
                         go_wp2_with fail
                         go_quiet ((go_at_call 8; exact Calls.quiet_of_same (H8.out _ _ (by omega) (by omega))))
                         go_wp2_with fail
                         go_roundw
                         case rel => exact ⟨k + 1, by omega, by go_num, below_drewN HBT.out _⟩
                         case measure => simp [intOf]; omega)
                    · go_wp2_with fail
                      have e9 : ((I.size : Int) + F.size - (a + S) - F.size) = adj := by have := HADJ.out; rw [← Lib.size_eq] at this; omega
                      rw [e9]
                      refine (H9.out SE adj _ (by omega) (by omega)).mono ?_
                      rintro e w9 ⟨rfl, rfl⟩
                      go_wp2_with fail
                      go_ret
                      refine ⟨ret_bool ?_, HBT.out⟩
                      have := HAG.out
                      rw [HSE.out, HEV.out, HEB.out] at this
                      exact this

end Go.Proofs.Qxb6602829aDoor
