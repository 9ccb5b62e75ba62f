/-
  The walk of readStrDecimal.
-/
import Derived.Test.Qxb6601790aDoorRh
namespace Go.Proofs.Qxb6601790aDoor
open Go.RowKit Num
open Go.Lib (decDigits)

def zObj : Obj := .cells #[.bool false, .string ⟨#[]⟩, .string ⟨#[]⟩, .int .i64 0, .string ⟨#[]⟩] 28
def rdV (q : Nm × Bool) : Value := .tuple #[nmV q.1, .bool q.2]
theorem rdV_no {l : List UInt8} (h : partsOf l = none) : Ending.returned (.tuple #[.agg #[.bool false, .string ⟨#[]⟩, .string ⟨#[]⟩, .int .i64 0, .string ⟨#[]⟩], .bool false]) = .returned (rdV (readB l)) := by
  unfold readB; rw [h]; rfl
theorem rdV_yes {l : List UInt8} {p : Parts} (h : partsOf l = some p) : Ending.returned (.tuple #[nmV (fromP p), .bool true]) = .returned (rdV (readB l)) := by
  unfold readB; rw [h]; rfl
theorem res30 {tmps : Array Value} {W : World} {b : Nat} {v0 v1 v2 v3 v4 x : Value} (hp : tmps.getD 2 undef = .pointer (some ⟨b, 0, none⟩)) (hx : tmps.getD 3 undef = x) (e0 : W.cell? ⟨b, 0, none⟩ = some v0) (e1 : W.cell? ⟨b, 1, none⟩ = some v1) (e2 : W.cell? ⟨b, 2, none⟩ = some v2) (e3 : W.cell? ⟨b, 3, none⟩ = some v3) (e4 : W.cell? ⟨b, 4, none⟩ = some v4) :
    (results Tryd.f30 tmps).run Tryd.prog W = .ok (.tuple #[.agg #[v0, v1, v2, v3, v4], x]) W := by
  rw [Array.getD_eq_getD_getElem?] at hp hx
  simp [results, Tryd.results30, go_sem, hp, hx, e0, e1, e2, e3, e4]
/-- One struct laid, and what came after left it alone. -/
theorem one_block {w w2 : World} (hb : Below (w.alloc zObj).heap.size (w.alloc zObj) w2) :
    (∀ k, w2.cell? ⟨w.heap.size, k, none⟩ = #[Value.bool false, .string ⟨#[]⟩, .string ⟨#[]⟩, .int .i64 0, .string ⟨#[]⟩][k]?) ∧ (∀ k, w2.frozen? ⟨w.heap.size, k, none⟩ = false) := by
  have hsz : (w.alloc zObj).heap.size = w.heap.size + 1 := by simp
  refine ⟨fun k => ?_, fun k => ?_⟩
  · rw [hb.cell (p := ⟨w.heap.size, k, none⟩) (by show w.heap.size < _; omega)]
    exact World.cell?_alloc_new ..
  · rw [hb.frozen (p := ⟨w.heap.size, k, none⟩) (by show w.heap.size < _; omega)]; simp [zObj]
theorem ie_list (s : ByteArray) : s.toList.isEmpty = s.data.toList.isEmpty := by rw [Lib.toList_data]
theorem sgB_at (s : ByteArray) (h : 0 < s.size) : sgB s 0 = (s[0] == 43 || s[0] == 45) := by unfold sgB isSg; rw [dif_pos h]
theorem exB_at (s : ByteArray) (i : Nat) (h : i < s.size) : exB s i = (s[i] == 101 || s[i] == 69) := by unfold exB isEx; rw [dif_pos h]
theorem ex_dig {s : ByteArray} {i : Nat} {ex : List UInt8} (h : expOf (s.data.toList.drop i) = some ex) : allD (dropSign ex) = true := by
  cases e : s.data.toList.drop i with
  | nil => rw [e] at h; injection h with h; rw [← h]; rfl
  | cons c r =>
    rw [e] at h
    have hx : expOf (c :: r) = if isEx c && !(dropSign r).isEmpty && allD (dropSign r) then some r else none := rfl
    rw [hx] at h
    split at h
    · rename_i hc
      injection h with h
      rw [Bool.and_eq_true] at hc
      rw [← h]; exact hc.2
    · exact absurd h (by simp)

set_option maxHeartbeats 2000000 in
set_option maxRecDepth 100000 in
theorem readStrDecimal_any (s : ByteArray) (w : World) (htab : Tab powName w) (hs : s.size ≤ 4194304) :
    Calls Tryd.prog 30 #[.string s] w fun e w' => e = .returned (rdV (readB s.data.toList)) ∧ Below w.heap.size w w' := by
  have H41 := hide (fun i wx hi => skipDigits_any s i wx hs hi)
  go_enter Tryd.func30, Tryd.ntmps30
  go_upto_region 3 with fail
  go_cut [26] from 11 (fun v wx => v = .bool (sgB s 0) ∧ wx = w.alloc zObj)
  case first =>
    by_cases h0 : 0 < s.size
    · have hB := sgB_at s h0
      cases h43 : (s[0] == 43) with
      | true =>
        have h3 : ((s[0].toNat : Int) == 43) = true := (beq_byte (c := s[0]) (d := 43) (z := 43) rfl).trans h43
        have HB := hide (show sgB s 0 = true by rw [hB, h43]; rfl)
        clear hB
        go_wp2
        go_meet
        case rel => exact ⟨by rw [HB.out], rfl⟩
      | false =>
        have h3 : ((s[0].toNat : Int) == 43) = false := (beq_byte (c := s[0]) (d := 43) (z := 43) rfl).trans h43
        have h4 : ((s[0].toNat : Int) == 45) = (s[0] == 45) := beq_byte (c := s[0]) (d := 45) (z := 45) rfl
        have HB := hide (show sgB s 0 = (s[0] == 45) by rw [hB, h43]; rfl)
        clear hB
        go_wp2
        go_meet
        case rel => exact ⟨by rw [HB.out], rfl⟩
    · have HB := hide (show sgB s 0 = false by unfold sgB; rw [dif_neg h0])
      go_wp2
      go_meet
      case rel => exact ⟨by rw [HB.out], rfl⟩
  case rest =>
  obtain ⟨rfl, rfl⟩ := hcut
  go_upto_if 26 with fail
  go_cut [4, 5] from 11 (fun a b wx => a = .int .i64 (sgAt s 0 : Nat) ∧ b = .bool (isNeg s.data.toList) ∧ wx = w.alloc zObj)
  case first =>
    cases hsg : sgB s 0 with
    | true =>
      have h0 : 0 < s.size := by
        unfold sgB at hsg
        by_cases h : 0 < s.size
        · exact h
        · rw [dif_neg h] at hsg; exact absurd hsg (by decide)
      have HA := hide (show sgAt s 0 = 1 by unfold sgB at hsg; rw [dif_pos h0] at hsg; unfold sgAt; rw [dif_pos h0, hsg]; rfl)
      have HN := hide (isNeg_at s h0)
      have h4 : ((s[0].toNat : Int) == 45) = (s[0] == 45) := beq_byte (c := s[0]) (d := 45) (z := 45) rfl
      clear hsg
      go_wp2
      go_meet
      case rel => exact ⟨by rw [HA.out]; rfl, by rw [HN.out], rfl⟩
    | false =>
      have HA := hide (show sgAt s 0 = 0 ∧ isNeg s.data.toList = false by
        unfold sgB at hsg
        unfold sgAt
        by_cases h : 0 < s.size
        · rw [dif_pos h] at hsg ⊢
          rw [hsg, isNeg_at s h]
          unfold isSg at hsg
          rw [Bool.or_eq_false_iff] at hsg
          exact ⟨rfl, hsg.2⟩
        · rw [dif_neg h]
          have : s.data.toList = [] := by have := drop_all s 0 h; rwa [List.drop_zero] at this
          rw [this]; exact ⟨rfl, rfl⟩)
      clear hsg
      go_wp2
      go_meet
      case rel => exact ⟨by rw [HA.out.1]; rfl, by rw [HA.out.2], rfl⟩
  case rest =>
  obtain ⟨rfl, rfl, rfl⟩ := hcut
  have HP := hide (parts_at s)
  have hi0 := sgAt_le s 0 (Nat.zero_le _)
  have hi1 := skipD_le s (sgAt s 0) hi0
  have hi01 : sgAt s 0 ≤ skipD s.data.toList (sgAt s 0) := by unfold skipD; omega
  have H41a := hide (fun wx => H41.out (sgAt s 0) wx hi0)
  generalize isNeg s.data.toList = ng at *
  generalize sgAt s 0 = i0 at *
  generalize skipD s.data.toList i0 = i1 at *
  go_upto_region 9 with (go_at_call 41; refine (H41a.out _).mono ?_; rintro e w1 ⟨rfl, rfl⟩)
  go_cut [50] from 11 (fun v wx => v = .bool (dotB s i1) ∧ wx = w.alloc zObj)
  case first =>
    by_cases h1 : i1 < s.size
    · have h4 : ((s[i1].toNat : Int) == 46) = (s[i1] == 46) := beq_byte (c := s[i1]) (d := 46) (z := 46) rfl
      have HB := hide (show dotB s i1 = (s[i1] == 46) by unfold dotB; rw [dif_pos h1])
      go_wp2
      go_meet
      case rel => exact ⟨by rw [HB.out], rfl⟩
    · have HB := hide (show dotB s i1 = false by unfold dotB; rw [dif_neg h1])
      go_wp2
      go_meet
      case rel => exact ⟨by rw [HB.out], rfl⟩
  case rest =>
  obtain ⟨rfl, rfl⟩ := hcut
  go_upto_if 50 with fail
  go_cut [4, 8] from 11 (fun a b wx => a = .int .i64 (fEnd s i1 : Nat) ∧ b = .string (fStr s i1) ∧ wx = w.alloc zObj)
  case first =>
    cases hd : dotB s i1 with
    | true =>
      have h1 : i1 < s.size := by
        unfold dotB at hd
        by_cases h : i1 < s.size
        · exact h
        · rw [dif_neg h] at hd; exact absurd hd (by decide)
      have H41b := hide (fun wx => H41.out (i1 + 1) wx (by omega))
      have HE := hide (show fEnd s i1 = skipD s.data.toList (i1 + 1) ∧ fStr s i1 = s.extract (i1 + 1) (skipD s.data.toList (i1 + 1)) by unfold fEnd fStr; rw [hd]; exact ⟨rfl, rfl⟩)
      have hk := skipD_le s (i1 + 1) (by omega)
      have hk2 : i1 + 1 ≤ skipD s.data.toList (i1 + 1) := by unfold skipD; omega
      clear hd
      generalize skipD s.data.toList (i1 + 1) = k at *
      go_wp2_with (go_at_call 41; refine (H41b.out _).mono ?_; rintro e w1 ⟨rfl, rfl⟩)
      go_meet
      case rel => exact ⟨by rw [HE.out.1], by rw [HE.out.2], rfl⟩
    | false =>
      have HE := hide (show fEnd s i1 = i1 ∧ fStr s i1 = ⟨#[]⟩ by unfold fEnd fStr; rw [hd]; exact ⟨rfl, rfl⟩)
      clear hd
      go_wp2
      go_meet
      case rel => exact ⟨by rw [HE.out.1], by rw [HE.out.2], rfl⟩
  case rest =>
  obtain ⟨rfl, rfl, rfl⟩ := hcut
  have hi2 := fEnd_le s i1 hi1
  have hIPs : (s.extract i0 i1).size ≤ 4194304 := by rw [ByteArray.size_extract]; omega
  have hFPs : (fStr s i1).size ≤ 4194304 := by
    unfold fStr
    split
    · rw [ByteArray.size_extract]; omega
    · decide
  generalize fEnd s i1 = i2 at *
  generalize fStr s i1 = FP at *
  generalize s.extract i0 i1 = IP at *
  have H43 := hide (fun ex wx htab hx ha => fromParts_any ng IP FP ex wx htab hIPs hFPs hx ha)
  have hIe := ie_list IP
  have hFe := ie_list FP
  have HT := hide (htab.below ((Below.refl _ _).alloc (Nat.le_refl _) zObj))
  have HW := hide ((Below.refl w.heap.size w).alloc (Nat.le_refl _) zObj)
  have HO := hide (one_block (w := w) (Below.refl _ _))
  clear hIPs hFPs
  by_cases hAF : (IP.data.toList.isEmpty && FP.data.toList.isEmpty) = true
  · have FIN := hide (rdV_no (HP.out.trans (if_pos hAF)))
    rw [Bool.and_eq_true] at hAF
    rw [hAF.1] at hIe
    rw [hAF.2] at hFe
    obtain ⟨hc, hf⟩ := HO.out
    have c0 := hc 0
    have c1 := hc 1
    have c2 := hc 2
    have c3 := hc 3
    have c4 := hc 4
    clear hAF
    go_wp2
    obtain ⟨e0, e1, e2, e3, e4⟩ := five_cells (hc 0) (hc 1) (hc 2) (hc 3) (hc 4) (.bool false) (.string ⟨#[]⟩) (.string ⟨#[]⟩) (.int .i64 0) (.string ⟨#[]⟩)
    refine bodyPost_ret (res30 rfl rfl e0 e1 e2 e3 e4) rfl ?_
    exact ⟨FIN.out, Below.five HW.out (Nat.le_refl _) _ _ _ _ _⟩
  · have HP2 := hide (HP.out.trans (if_neg hAF))
    go_upto_region 13 with fail
    go_cut [65] from 11 (fun v wx => v = .bool false ∧ wx = w.alloc zObj)
    case first =>
      cases hA : IP.data.toList.isEmpty with
      | false =>
        rw [hA] at hIe
        clear hA hAF hFe
        go_wp2
        go_meet
        case rel => exact ⟨rfl, rfl⟩
      | true =>
        rw [hA] at hIe hAF
        have hF : FP.data.toList.isEmpty = false := by simpa using hAF
        rw [hF] at hFe
        clear hA hAF hF
        go_wp2
        go_meet
        case rel => exact ⟨rfl, rfl⟩
    case rest =>
    obtain ⟨rfl, rfl⟩ := hcut
    clear hAF hIe hFe
    go_upto_region 16 with fail
    go_cut [82] from 11 (fun v wx => v = .bool (exB s i2) ∧ wx = w.alloc zObj)
    case first =>
      by_cases h1 : i2 < s.size
      · have hB := exB_at s i2 h1
        cases h43 : (s[i2] == 101) with
        | true =>
          have h3 : ((s[i2].toNat : Int) == 101) = true := (beq_byte (c := s[i2]) (d := 101) (z := 101) rfl).trans h43
          have HB := hide (show exB s i2 = true by rw [hB, h43]; rfl)
          clear hB
          go_wp2
          go_meet
          case rel => exact ⟨by rw [HB.out], rfl⟩
        | false =>
          have h3 : ((s[i2].toNat : Int) == 101) = false := (beq_byte (c := s[i2]) (d := 101) (z := 101) rfl).trans h43
          have h4 : ((s[i2].toNat : Int) == 69) = (s[i2] == 69) := beq_byte (c := s[i2]) (d := 69) (z := 69) rfl
          have HB := hide (show exB s i2 = (s[i2] == 69) by rw [hB, h43]; rfl)
          clear hB
          go_wp2
          go_meet
          case rel => exact ⟨by rw [HB.out], rfl⟩
      · have HB := hide (show exB s i2 = false by unfold exB; rw [dif_neg h1])
        go_wp2
        go_meet
        case rel => exact ⟨by rw [HB.out], rfl⟩
    case rest =>
    obtain ⟨rfl, rfl⟩ := hcut
    obtain ⟨hc, hf⟩ := HO.out
    have c0 := hc 0
    have c1 := hc 1
    have c2 := hc 2
    have c3 := hc 3
    have c4 := hc 4
    cases hx : exB s i2 with
    | false =>
      have hE := exp_no s i2 hx hi2
      clear hx
      by_cases h1 : i2 = s.size
      · rw [if_pos h1] at hE
        have FIN := hide (rdV_yes (HP2.out.trans (by rw [hE]; rfl)))
        have H43' := hide (H43.out ⟨#[]⟩ _ HT.out (by decide) (by decide))
        have hne : ((i2 : Int) == (s.size : Int)) = true := by rw [beq_iff_eq]; omega
        clear h1 hE c0 c1 c2 c3 c4
        go_wp2_with fail
        refine H43'.out.mono ?_
        rintro e w2 ⟨rfl, hb⟩
        obtain ⟨hc2, hf2⟩ := one_block hb
        have c0 := hc2 0
        have c1 := hc2 1
        have c2 := hc2 2
        have c3 := hc2 3
        have c4 := hc2 4
        have HB := hide (HW.out.trans (hb.mono (by simp)))
        have HC := hide hc2
        clear hb hc2
        generalize fromP _ = N at *
        obtain ⟨n1, n2, n3, n4, n5⟩ := N
        unfold nmV at *
        go_wp2
        obtain ⟨e0, e1, e2, e3, e4⟩ := five_cells (HC.out 0) (HC.out 1) (HC.out 2) (HC.out 3) (HC.out 4) (.bool n1) (.string ⟨n2.toArray⟩) (.string ⟨n3.toArray⟩) (.int .i64 n4) (.string ⟨n5.toArray⟩)
        refine bodyPost_ret (res30 rfl rfl e0 e1 e2 e3 e4) rfl ?_
        exact ⟨FIN.out, Below.five HB.out (Nat.le_refl _) _ _ _ _ _⟩
      · rw [if_neg h1] at hE
        have FIN := hide (rdV_no (HP2.out.trans (by rw [hE]; rfl)))
        have hne : ((i2 : Int) == (s.size : Int)) = false := by rw [beq_eq_false_iff_ne]; omega
        clear h1 hE
        go_wp2
        obtain ⟨e0, e1, e2, e3, e4⟩ := five_cells (hc 0) (hc 1) (hc 2) (hc 3) (hc 4) (.bool false) (.string ⟨#[]⟩) (.string ⟨#[]⟩) (.int .i64 0) (.string ⟨#[]⟩)
        refine bodyPost_ret (res30 rfl rfl e0 e1 e2 e3 e4) rfl ?_
        exact ⟨FIN.out, Below.five HW.out (Nat.le_refl _) _ _ _ _ _⟩
    | true =>
      have h1 : i2 < s.size := by
        unfold exB at hx
        by_cases h : i2 < s.size
        · exact h
        · rw [dif_neg h] at hx; exact absurd hx (by decide)
      have hE := exp_yes s i2 h1 hx
      have H42 := hide (fun wx => scanExponent_any s i2 wx hs h1)
      have hk := skipD_le s _ (sgAt_le s (i2 + 1) (by omega))
      have hED := fun ex h => ex_dig (s := s) (i := i2) (ex := ex) h
      clear hx
      unfold scanV at H42
      generalize skipD s.data.toList (sgAt s (i2 + 1)) = k at *
      generalize sgAt s (i2 + 1) = j at *
      by_cases h2 : k = j
      · rw [if_pos h2] at hE H42
        have FIN := hide (rdV_no (HP2.out.trans (by rw [hE]; rfl)))
        clear h2 hE
        go_wp2_with fail
        refine (H42.out _).mono ?_
        rintro e w1 ⟨rfl, rfl⟩
        go_wp2
        obtain ⟨e0, e1, e2, e3, e4⟩ := five_cells (hc 0) (hc 1) (hc 2) (hc 3) (hc 4) (.bool false) (.string ⟨#[]⟩) (.string ⟨#[]⟩) (.int .i64 0) (.string ⟨#[]⟩)
        refine bodyPost_ret (res30 rfl rfl e0 e1 e2 e3 e4) rfl ?_
        exact ⟨FIN.out, Below.five HW.out (Nat.le_refl _) _ _ _ _ _⟩
      · rw [if_neg h2] at hE H42
        by_cases h3 : k = s.size
        · rw [if_pos h3] at hE
          have FIN := hide (rdV_yes (HP2.out.trans (by rw [hE]; rfl)))
          have H43' := hide (H43.out (s.extract (i2 + 1) k) _ HT.out (by rw [ByteArray.size_extract]; omega) (hED _ hE))
          have hne : ((k : Int) == (s.size : Int)) = true := by rw [beq_iff_eq]; omega
          clear h2 h3 hE c0 c1 c2 c3 c4
          generalize s.extract (i2 + 1) k = EX at *
          go_wp2_with fail
          refine (H42.out _).mono ?_
          rintro e w1 ⟨rfl, rfl⟩
          go_wp2_with fail
          refine H43'.out.mono ?_
          rintro e w2 ⟨rfl, hb⟩
          obtain ⟨hc2, hf2⟩ := one_block hb
          have c0 := hc2 0
          have c1 := hc2 1
          have c2 := hc2 2
          have c3 := hc2 3
          have c4 := hc2 4
          have HB := hide (HW.out.trans (hb.mono (by simp)))
          have HC := hide hc2
          clear hb hc2
          generalize fromP _ = N at *
          obtain ⟨n1, n2, n3, n4, n5⟩ := N
          unfold nmV at *
          go_wp2
          obtain ⟨e0, e1, e2, e3, e4⟩ := five_cells (HC.out 0) (HC.out 1) (HC.out 2) (HC.out 3) (HC.out 4) (.bool n1) (.string ⟨n2.toArray⟩) (.string ⟨n3.toArray⟩) (.int .i64 n4) (.string ⟨n5.toArray⟩)
          refine bodyPost_ret (res30 rfl rfl e0 e1 e2 e3 e4) rfl ?_
          exact ⟨FIN.out, Below.five HB.out (Nat.le_refl _) _ _ _ _ _⟩
        · rw [if_neg h3] at hE
          have FIN := hide (rdV_no (HP2.out.trans (by rw [hE]; rfl)))
          have hne : ((k : Int) == (s.size : Int)) = false := by rw [beq_eq_false_iff_ne]; omega
          clear h2 h3 hE
          generalize s.extract (i2 + 1) k = EX at *
          go_wp2_with fail
          refine (H42.out _).mono ?_
          rintro e w1 ⟨rfl, rfl⟩
          go_wp2
          obtain ⟨e0, e1, e2, e3, e4⟩ := five_cells (hc 0) (hc 1) (hc 2) (hc 3) (hc 4) (.bool false) (.string ⟨#[]⟩) (.string ⟨#[]⟩) (.int .i64 0) (.string ⟨#[]⟩)
          refine bodyPost_ret (res30 rfl rfl e0 e1 e2 e3 e4) rfl ?_
          exact ⟨FIN.out, Below.five HW.out (Nat.le_refl _) _ _ _ _ _⟩

end Go.Proofs.Qxb6601790aDoor
