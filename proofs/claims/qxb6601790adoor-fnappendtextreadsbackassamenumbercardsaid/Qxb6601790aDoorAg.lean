/-
  The law of the ninth function.
-/
import Derived.Test.Qxb6601790aDoorAf
namespace Go.Proofs.Qxb6601790aDoor
open Go.RowKit Num
open Go.Lib (decDigits)

theorem tight_of {D : ByteArray} {k : Nat} (hk : D.size = k + 1) (ha : allD D.data.toList = true) (h0 : (D[0]'(by omega) == 48) = false) (h1 : (D[k]'(by omega) == 48) = false) : Tight D.data.toList := by
  have hne : D.data.toList ≠ [] := by
    intro e
    have := len_data D
    rw [e] at this
    simp at this
    omega
  refine ⟨hne, ha, ?_, ?_⟩
  · have e := drop_at D 0 (by omega)
    rw [List.drop_zero] at e
    rw [e]
    exact trimL_cons_ne (by simpa using h0) _
  · have e : D.data.toList = D.data.toList.take k ++ [D[k]'(by omega)] := by
      have h := List.take_append_drop k D.data.toList
      rw [drop_at D k (by omega), drop_all D (k + 1) (by omega)] at h
      exact h.symm
    rw [e]
    exact trimR_snoc_ne _ (by simpa using h1)
theorem mk_eq {a : List UInt8} {D : ByteArray} (h : a = D.data.toList) : (⟨a.toArray⟩ : ByteArray) = D := by rw [h]

/-- The number of the law, its text read back. -/
theorem back9 (n1 : Bool) {l1 l2 : List UInt8} {pt : Int} (ht : Tight (l1 ++ l2)) (hl : l1.length + l2.length ≤ 1048576) (h0 : -999999999999999998 ≤ pt) (h1 : pt ≤ 1000000000000000000) :
    Fits ⟨n1, l1, l2, pt, []⟩ ∧ (text ⟨n1, l1, l2, pt, []⟩).length ≤ 2097300 ∧ ∃ a b, a ++ b = l1 ++ l2 ∧ readB (text ⟨n1, l1, l2, pt, []⟩) = (⟨n1, a, b, pt, []⟩, true) := by
  have hf : Fit 1048576 ⟨n1, l1, l2, pt, []⟩ := ⟨hl, by simp, rfl, by show _ ≤ pt; omega, by show pt ≤ _; omega⟩
  refine ⟨Fit.fits hf (by decide), text_len _ hf, ?_⟩
  obtain ⟨⟨m1, m2, m3, m4, m5⟩, hr, hb⟩ := read_canon n1 ht (sciOf ⟨n1, l1, l2, pt, []⟩) pt
  have hq : (if sciOf ⟨n1, l1, l2, pt, []⟩ then ptOf pt else (pt, [])) = (pt, []) := by rw [ptOf_small h0 h1]; split <;> rfl
  rw [hq] at hb
  have e1 : m1 = n1 := hb.neg
  have e2 : m4 = pt := hb.pt
  have e3 : m5 = [] := hb.bp
  subst e1 e2 e3
  exact ⟨m2, m3, hb.dig, hr⟩

set_option maxHeartbeats 2000000 in
set_option maxRecDepth 100000 in
theorem law9 (n1 : Bool) (s1 s2 : ByteArray) (pt : Int) (w : World) (htab : Tab powName w) (hs1 : s1.size ≤ maxLen) (hs2 : s2.size ≤ maxLen) (hp0 : -9223372036854775808 ≤ pt) (hp1 : pt ≤ 9223372036854775807) :
    Calls Tryd.prog 9 #[.bool n1, .string s1, .string s2, .int .i64 pt] w fun e w' => e = .returned (.bool true) ∧ Below w.heap.size w w' := by
  unfold maxLen at hs1 hs2
  by_cases h1 : s1.size ≤ 1048576
  · by_cases h2 : s2.size ≤ 1048576
    · by_cases h3 : s1.size + s2.size ≤ 1048576
      · obtain ⟨D, hD⟩ : ∃ D, D = s1 ++ s2 := ⟨_, rfl⟩
        have hDs : D.size = s1.size + s2.size := by rw [hD, ByteArray.size_append]
        have hDl : D.data.toList = s1.data.toList ++ s2.data.toList := by rw [hD]; simp
        go_enter Tryd.func9, Tryd.ntmps9
        go_upto_region 6 with (go_at_call 28; go_in)
        rw [← hD]
        have HDl := hide hDl
        clear hDl hD
        by_cases hk0 : D.size = 0
        · have hz : ((D.size : Int) == 0) = true := by rw [hk0]; rfl
          clear hk0 hDs
          go_wp2
          go_ret
          exact ⟨rfl, Below.refl _ _⟩
        · have hz : ((D.size : Int) == 0) = false := by rw [beq_eq_false_iff_ne]; omega
          obtain ⟨k, hk⟩ : ∃ k, D.size = k + 1 := ⟨D.size - 1, by omega⟩
          have HK := hide hk
          have hix : (D.size : Int) - 1 = (k : Int) := by omega
          have hkl : k < D.size := by omega
          have h0l : 0 < D.size := by omega
          have hDm : D.size ≤ 1048576 := by omega
          have HDS := hide hDs
          have H11 := hide (zzAllDigits_any D w (by unfold maxLen; omega))
          clear hk hk0 hDs
          cases ha : allD D.data.toList with
          | false =>
            rw [ha] at H11
            clear ha
            go_wp2_with (go_at_call 11; refine H11.out.mono ?_; rintro e w1 ⟨rfl, rfl⟩)
            go_ret
            exact ⟨rfl, Below.refl _ _⟩
          | true =>
            rw [ha] at H11
            cases hd0 : (D[0] == 48) with
            | true =>
              have hb0 : ((D[0].toNat : Int) == 48) = true := (beq_byte (c := D[0]) (d := 48) (z := 48) rfl).trans hd0
              clear ha hd0
              go_wp2_with (go_at_call 11; refine H11.out.mono ?_; rintro e w1 ⟨rfl, rfl⟩)
              go_ret
              exact ⟨rfl, Below.refl _ _⟩
            | false =>
              have hb0 : ((D[0].toNat : Int) == 48) = false := (beq_byte (c := D[0]) (d := 48) (z := 48) rfl).trans hd0
              cases hdk : (D[k] == 48) with
              | true =>
                have hbk : ((D[k].toNat : Int) == 48) = true := (beq_byte (c := D[k]) (d := 48) (z := 48) rfl).trans hdk
                clear ha hd0 hdk
                go_wp2_with (go_at_call 11; refine H11.out.mono ?_; rintro e w1 ⟨rfl, rfl⟩)
                go_ret
                exact ⟨rfl, Below.refl _ _⟩
              | false =>
                have hbk : ((D[k].toNat : Int) == 48) = false := (beq_byte (c := D[k]) (d := 48) (z := 48) rfl).trans hdk
                have hT := tight_of HK.out ha hd0 hdk
                rw [HDl.out] at hT
                clear ha hd0 hdk
                by_cases hlo : pt < -999999999999999998
                · go_wp2_with (go_at_call 11; refine H11.out.mono ?_; rintro e w1 ⟨rfl, rfl⟩)
                  go_ret
                  exact ⟨rfl, Below.refl _ _⟩
                · by_cases hhi : 1000000000000000000 < pt
                  · go_wp2_with (go_at_call 11; refine H11.out.mono ?_; rintro e w1 ⟨rfl, rfl⟩)
                    go_ret
                    exact ⟨rfl, Below.refl _ _⟩
                  · obtain ⟨hf, hlen, a, b, hab, hr⟩ := back9 n1 (pt := pt) hT (by rw [len_data, len_data]; exact h3) (by omega) (by omega)
                    have H27 := hide (fun wx => ZZMakeNumber_any n1 s1 s2 pt ⟨#[]⟩ wx)
                    have H20 := hide (fun wx ht => append_nil ⟨n1, s1.data.toList, s2.data.toList, pt, []⟩ wx ht hf)
                    have hne := text_ne ⟨n1, s1.data.toList, s2.data.toList, pt, []⟩
                    have H17 := hide (fun wx ht => ZZReadStrDecimal_any ⟨(text ⟨n1, s1.data.toList, s2.data.toList, pt, []⟩).toArray⟩ wx ht (by rw [size_mk]; omega))
                    rw [data_mk, hr] at H17
                    have H18 := hide (fun wx => ZZNumberFields_any ⟨n1, a, b, pt, []⟩ wx)
                    have heq : (⟨a.toArray⟩ : ByteArray) ++ ⟨b.toArray⟩ = D := by
                      have e : ((⟨a.toArray⟩ : ByteArray) ++ ⟨b.toArray⟩).data.toList = D.data.toList := by rw [HDl.out, ← hab]; simp
                      exact (Lib.mk_data _).symm.trans (mk_eq e)
                    have hla : a.length + b.length = D.size := by
                      rw [← List.length_append, hab, ← HDl.out, len_data]
                    have hsa := size_mk a
                    have hsb := size_mk b
                    clear hr hf hab hT
                    generalize text ⟨n1, s1.data.toList, s2.data.toList, pt, []⟩ = T at *
                    unfold nmV at H20 H18
                    unfold rdV nmV at H17
                    unfold nfV at H18
                    simp only [Lib.mk_data] at H20
                    go_wp2_with (go_at_call 11; refine H11.out.mono ?_; rintro e w1 ⟨rfl, rfl⟩)
                    refine (H27.out _).mono ?_
                    rintro e w1 ⟨rfl, hb1⟩
                    have HB1 := hide hb1
                    have HT1 := hide (htab.below hb1)
                    clear hb1 H27 H11
                    go_wp2_with fail
                    refine (H20.out _ (HT1.out.below ((Below.refl _ _).alloc (Nat.le_refl _) _))).mono ?_
                    rintro e w2 ⟨v2, rfl, ht2, hb2⟩
                    have HB2 := hide ((HB1.out.alloc HB1.out.size _).trans (hb2.mono (by have := HB1.out.size; simp; omega)))
                    have HT2 := hide (htab.below HB2.out)
                    have hst := ht2.toStr hne
                    clear hb2 ht2 HT1 HB1 H20
                    go_wp2_with fail
                    refine (H17.out _ HT2.out).mono ?_
                    rintro e w3 ⟨rfl, hb3⟩
                    have HB3 := hide (HB2.out.trans (hb3.mono HB2.out.size))
                    clear hb3 HB2 HT2 H17 hst
                    go_wp2_with fail
                    refine (H18.out _).mono ?_
                    rintro e w4 ⟨rfl, hb4⟩
                    have HB4 := hide ((HB3.out.alloc HB3.out.size _).trans (hb4.mono (by have := HB3.out.size; simp; omega)))
                    clear hb4 HB3 H18
                    go_wp2
                    go_ret
                    exact ⟨rfl, HB4.out⟩
      · go_enter Tryd.func9, Tryd.ntmps9
        go_wp2_with (go_at_call 28; go_in)
        go_ret
        exact ⟨rfl, Below.refl _ _⟩
    · go_enter Tryd.func9, Tryd.ntmps9
      go_wp2_with (go_at_call 28; go_in)
      go_ret
      exact ⟨rfl, Below.refl _ _⟩
  · go_enter Tryd.func9, Tryd.ntmps9
    go_wp2_with (go_at_call 28; go_in)
    go_ret
    exact ⟨rfl, Below.refl _ _⟩

end Go.Proofs.Qxb6601790aDoor
