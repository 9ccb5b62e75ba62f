/-
  The law of the eighth function: Append writes as the model.
-/
import Derived.Test.Qxb6601790aDoorBe
import Derived.Test.Qxb6601790aDoorAf
namespace Go.Proofs.Qxb6601790aDoor
open Go.RowKit Num
open Go.Lib (decDigits)

theorem text_len8 {ng : Bool} {l1 l2 l5 : List UInt8} {pt : Int} (h12 : l1.length + l2.length ≤ 1048576) (h5 : l5.length ≤ 1048576) (ha : allD (dropSign l5) = true) (hp1 : pt ≤ 9223372036854775807) (hp2 : l5 = [] → -9223372036854775807 ≤ pt) : (text ⟨ng, l1, l2, pt, l5⟩).length ≤ 2097300 := by
  by_cases h : l5 = []
  · exact text_len _ ⟨h12, by show l5.length ≤ _; omega, ha, hp2 h, hp1⟩
  · have e : text ⟨ng, l1, l2, pt, l5⟩ = text ⟨ng, l1, l2, 0, l5⟩ := by
      have hs : ∀ x : Int, sciOf ⟨ng, l1, l2, x, l5⟩ = true := fun x => by
        unfold sciOf
        show (!l5.isEmpty || _ || _) = true
        rw [isE_false h]
        rfl
      have hv : ∀ x : Int, pv ⟨ng, l1, l2, x, l5⟩ = bigOf l5 := fun x => by
        unfold pv
        show (if l5.isEmpty = true then x else bigOf l5) = _
        rw [isE_false h]
        rfl
      unfold text
      rw [hs, hs, hv, hv]
    rw [e]
    exact text_len _ ⟨h12, by show l5.length ≤ _; omega, ha, by show (-9223372036854775807 : Int) ≤ 0; decide, by show (0 : Int) ≤ 9223372036854775807; decide⟩
theorem Bts.form {w : World} {v : Value} {xs : List UInt8} (h : Bts w v xs) : ∃ ao cap, v = .slice ao xs.length cap := by
  rcases h with ⟨rfl, rfl⟩ | ⟨a, cap, rfl, _, _⟩
  · exact ⟨none, 0, rfl⟩
  · exact ⟨some a, cap, rfl⟩

set_option maxHeartbeats 1000000 in
set_option maxRecDepth 100000 in
theorem bytes8 (ng : Bool) (s1 s2 : ByteArray) (pt : Int) (s5 : ByteArray) (ao : Option Addr) (n cap : Nat) (w : World) (h1 : s1.size ≤ 1048576) (h2 : s2.size ≤ 1048576) (h3 : s1.size + s2.size ≤ 1048576) (h4 : s5.size ≤ 1048576) (h6 : s1.size + s2.size + s5.size ≤ 1048576) (h7 : n ≤ 1048576) (h8 : s1.size + s2.size + s5.size + n ≤ 1048576) :
    Calls Tryd.prog 23 #[.bool ng, .string s1, .string s2, .int .i64 pt, .string s5, .slice ao n cap] w fun e w' => e = .returned (.bool true) ∧ w' = w := by
  go_enter Tryd.func23, Tryd.ntmps23
  go_wp2
  go_ret
  exact ⟨rfl, rfl⟩

set_option maxHeartbeats 2000000 in
set_option maxRecDepth 100000 in
theorem law8 (ng : Bool) (s1 s2 : ByteArray) (pt : Int) (s5 : ByteArray) (v : Value) (xs : List UInt8) (w : World) (htab : Tab powName w) (hs1 : s1.size ≤ maxLen) (hs2 : s2.size ≤ maxLen) (hs5 : s5.size ≤ maxLen) (hxs : xs.length ≤ maxLen) (hp0 : -9223372036854775808 ≤ pt) (hp1 : pt ≤ 9223372036854775807) (hv : Bts w v xs) :
    Calls Tryd.prog 8 #[.bool ng, .string s1, .string s2, .int .i64 pt, .string s5, v] w fun e w' => e = .returned (.bool true) ∧ Below w.heap.size w w' := by
  unfold maxLen at hs1 hs2 hs5 hxs
  have H25 := hide (fun v xs wx (h : Bts wx v xs) hl => zzCloneBytes_any v xs wx h hl)
  have HV := hide hv
  obtain ⟨ao, cap, rfl⟩ := hv.form
  clear hv
  by_cases h1 : s1.size ≤ 1048576
  · by_cases h2 : s2.size ≤ 1048576
    · by_cases h3 : s1.size + s2.size ≤ 1048576
      · by_cases h4 : s5.size ≤ 1048576
        · by_cases h6 : s1.size + s2.size + s5.size ≤ 1048576
          · by_cases h7 : xs.length ≤ 1048576
            · by_cases h8 : s1.size + s2.size + s5.size + xs.length ≤ 1048576
              · have hie := ie_list s5
                have H24 := hide (fun wx => zzSignedDigits_any s5 wx (by omega))
                have H23 := hide (bytes8 ng s1 s2 pt s5 ao xs.length cap w h1 h2 h3 h4 h6 h7 h8)
                go_enter Tryd.func8, Tryd.ntmps8
                go_upto_region 5 with (go_at_call 23; refine H23.out.mono ?_; rintro e w1 ⟨rfl, hw⟩; obtain rfl := hw.symm)
                go_cut [62] from 16 (fun b wx => b = .bool (!s5.data.toList.isEmpty && !sd s5.data.toList) ∧ w = wx)
                case first =>
                  cases hbe : s5.data.toList.isEmpty with
                  | true =>
                    rw [hbe] at hie
                    have HBE := hide hbe
                    clear hbe
                    go_wp2
                    go_meet
                    case rel => exact ⟨by rw [HBE.out]; rfl, rfl⟩
                  | false =>
                    rw [hbe] at hie
                    have HBE := hide hbe
                    clear hbe
                    generalize sd s5.data.toList = A at *
                    go_wp2_with (go_at_call 24; refine (H24.out _).mono ?_; rintro e w1 ⟨rfl, rfl⟩)
                    go_meet
                    case rel => exact ⟨by rw [HBE.out]; rfl, rfl⟩
                case rest =>
                obtain ⟨rfl, rfl⟩ := hcut
                cases hbad : (!s5.data.toList.isEmpty && !sd s5.data.toList) with
                | true =>
                  clear hbad
                  go_wp2
                  go_ret
                  exact ⟨rfl, Below.refl _ _⟩
                | false =>
                  have HSD : Hid (s5.data.toList = [] ∨ sd s5.data.toList = true) := hide (by
                    cases he : s5.data.toList.isEmpty with
                    | true => exact .inl (by simpa using he)
                    | false => rw [he] at hbad; exact .inr (by simpa using hbad))
                  clear hbad
                  go_upto_region 7 with fail
                  go_cut [68] from 16 (fun b wx => b = .bool (s5.data.toList.isEmpty && (pt == -9223372036854775808)) ∧ w = wx)
                  case first =>
                    cases hbe : s5.data.toList.isEmpty with
                    | true =>
                      rw [hbe] at hie
                      have HBE := hide hbe
                      clear hbe
                      go_wp2
                      go_meet
                      case rel => exact ⟨by rw [HBE.out]; rfl, rfl⟩
                    | false =>
                      rw [hbe] at hie
                      have HBE := hide hbe
                      clear hbe
                      go_wp2
                      go_meet
                      case rel => exact ⟨by rw [HBE.out]; rfl, rfl⟩
                  case rest =>
                  obtain ⟨rfl, rfl⟩ := hcut
                  cases hbad : (s5.data.toList.isEmpty && (pt == -9223372036854775808)) with
                  | true =>
                    clear hbad
                    go_wp2
                    go_ret
                    exact ⟨rfl, Below.refl _ _⟩
                  | false =>
                    have hp2 : s5.data.toList = [] → -9223372036854775807 ≤ pt := by
                      intro e
                      rw [e] at hbad
                      have hne : pt ≠ -9223372036854775808 := by simpa using hbad
                      omega
                    have hal : allD (dropSign s5.data.toList) = true := by
                      rcases HSD.out with e | e
                      · rw [e]; rfl
                      · exact (sd_facts e).2.2
                    clear hbad
                    have htl := text_len8 (ng := ng) (l1 := s1.data.toList) (l2 := s2.data.toList) (l5 := s5.data.toList) (pt := pt) (by rw [len_data, len_data]; exact h3) (by rw [len_data]; exact h4) hal hp1 hp2
                    have H26 := hide (fun v xs B wx a b c => zzAppendModel_any ng s1 s2 pt s5 v xs B wx a b c h3 h4 HSD.out hp0 hp1 hp2)
                    have H20 := hide (fun v wx a b => Append_any ⟨ng, s1.data.toList, s2.data.toList, pt, s5.data.toList⟩ v xs wx a b (by omega) (by show s1.data.toList.length + s2.data.toList.length ≤ _; rw [len_data, len_data]; omega) (by show s5.data.toList.length ≤ _; rw [len_data]; omega) hal hp0 hp1 hp2)
                    have H27 := hide (fun wx => ZZMakeNumber_any ng s1 s2 pt s5 wx)
                    have H21 := hide (fun u v wx a b => zzEqualBytes_any u v (xs ++ text ⟨ng, s1.data.toList, s2.data.toList, pt, s5.data.toList⟩) wx a b (by rw [List.length_append]; omega))
                    generalize text ⟨ng, s1.data.toList, s2.data.toList, pt, s5.data.toList⟩ = TX at *
                    unfold nmV at H20
                    simp only [Lib.mk_data] at H20
                    clear hal hp2 H24
                    have H25a := hide (H25.out _ xs w HV.out (by omega))
                    go_wp2_with fail
                    refine H25a.out.mono ?_
                    rintro e w1 ⟨v1, rfl, hsrc1, hb1⟩
                    have HS1 := hide hsrc1
                    have HB1 := hide hb1
                    have H25b := hide (H25.out v1 xs w1 (hsrc1 0).txt.bts (by omega))
                    clear hsrc1 hb1 H25a H25
                    go_wp2_with fail
                    refine H25b.out.mono ?_
                    rintro e w2 ⟨v2, rfl, hsrc2, hb2⟩
                    have HB2 := hide hb2
                    have H26a := hide (H26.out v2 xs w2.heap.size w2 (hsrc2 _) (Nat.le_refl _) h7)
                    clear hsrc2 hb2 H25b H26
                    go_wp2_with fail
                    refine H26a.out.mono ?_
                    rintro e w3 ⟨v3, rfl, hs3, hk3⟩
                    have HX3 := hide hs3.txt
                    have HB3 := hide hk3.bel
                    clear hs3 hk3 H26a
                    go_wp2_with fail
                    refine (H27.out _).mono ?_
                    rintro e w4 ⟨rfl, hb4⟩
                    have HB4 := hide hb4
                    clear hb4 H27
                    have hal1 := fun (o : Obj) => (Below.refl w4.heap.size w4).alloc (Nat.le_refl _) o
                    have hsz3 := Nat.le_trans HB2.out.size HB3.out.size
                    have hch : ∀ o : Obj, Below w1.heap.size w1 (w4.alloc o) := fun o => ((HB2.out.trans (HB3.out.mono HB2.out.size)).trans (HB4.out.mono hsz3)).trans ((hal1 o).mono (Nat.le_trans hsz3 HB4.out.size))
                    have hch3 : ∀ o : Obj, Below w3.heap.size w3 (w4.alloc o) := fun o => HB4.out.trans ((hal1 o).mono HB4.out.size)
                    have hch0 : ∀ o : Obj, Below w.heap.size w (w4.alloc o) := fun o => HB1.out.trans ((hch o).mono HB1.out.size)
                    have HCH := hide hch
                    have HCH3 := hide hch3
                    have HCH0 := hide hch0
                    clear hal1 hch hch3 hch0 hsz3
                    go_wp2_with fail
                    refine (H20.out _ _ ((HS1.out _).below (HCH.out _)) (htab.below (HCH0.out _))).mono ?_
                    rintro e w5 ⟨v5, rfl, hs5', hk5⟩
                    have HX5 := hide hs5'.txt
                    have HX35 := hide ((HX3.out.below (HCH3.out _)).below hk5.bel)
                    have HB5 := hide ((HCH0.out _).trans (hk5.bel.mono (HCH0.out _).size))
                    clear hs5' hk5
                    go_wp2_with fail
                    refine (H21.out _ _ _ HX5.out HX35.out).mono ?_
                    rintro e w6 ⟨rfl, hb6⟩
                    have HB6 := hide (HB5.out.trans (hb6.mono HB5.out.size))
                    clear hb6
                    go_wp2
                    go_ret
                    exact ⟨rfl, HB6.out⟩
              · go_enter Tryd.func8, Tryd.ntmps8
                go_wp2_with (go_at_call 23; go_in)
                go_ret
                exact ⟨rfl, Below.refl _ _⟩
            · go_enter Tryd.func8, Tryd.ntmps8
              go_wp2_with (go_at_call 23; go_in)
              go_ret
              exact ⟨rfl, Below.refl _ _⟩
          · go_enter Tryd.func8, Tryd.ntmps8
            go_wp2_with (go_at_call 23; go_in)
            go_ret
            exact ⟨rfl, Below.refl _ _⟩
        · go_enter Tryd.func8, Tryd.ntmps8
          go_wp2_with (go_at_call 23; go_in)
          go_ret
          exact ⟨rfl, Below.refl _ _⟩
      · go_enter Tryd.func8, Tryd.ntmps8
        go_wp2_with (go_at_call 23; go_in)
        go_ret
        exact ⟨rfl, Below.refl _ _⟩
    · go_enter Tryd.func8, Tryd.ntmps8
      go_wp2_with (go_at_call 23; go_in)
      go_ret
      exact ⟨rfl, Below.refl _ _⟩
  · go_enter Tryd.func8, Tryd.ntmps8
    go_wp2_with (go_at_call 23; go_in)
    go_ret
    exact ⟨rfl, Below.refl _ _⟩

end Go.Proofs.Qxb6601790aDoor
