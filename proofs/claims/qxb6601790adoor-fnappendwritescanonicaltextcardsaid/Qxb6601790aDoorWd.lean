/-
  addToMagnitude, all cases; the law FnAddToMagnitudeIsDecimalSum's walk.
-/
import Derived.Test.Qxb6601790aDoorWc
namespace Go.Proofs.Qxb6601790aDoor
open Go.RowKit Num
open Go.Lib (decDigits)

/-- addToMagnitude: the numeral of the sum. -/
theorem addToMagnitude_any (nm : String) (h38 : Said38 nm) (h39 : Said39) (h40 : Said40) (m : ByteArray) (d : Int) (w : World) (htab : Tab nm w) (hm0 : 19 ≤ m.size) (hm : m.size ≤ 4194304) (ha : allD m.data.toList = true)
    (hd0 : -1000000000000000000 < d) (hd1 : d < 1000000000000000000) (hv18 : 1000000000000000000 ≤ val m.data.toList) :
    Calls Tryd.prog 29 #[.string m, .int .i64 d] w fun e w' => e = .returned (.string ⟨(decDigits (val m.data.toList + d).toNat).toArray⟩) ∧ Below w.heap.size w w' := by
  by_cases h1 : 1000000000000000000 ≤ (val (m.extract (m.size - 18) m.size).data.toList : Int) + d
  · exact mag_carry nm h38 h39 h40 m d w htab hm0 hm ha hd0 hd1 hv18 _ rfl h1
  · by_cases h2 : (val (m.extract (m.size - 18) m.size).data.toList : Int) + d < 0
    · exact mag_borrow nm h38 h39 h40 m d w htab hm0 hm ha hd0 hd1 hv18 _ rfl h2
    · exact mag_plain nm h38 h39 h40 m d w htab hm0 hm ha hd0 hd1 hv18 _ rfl (by omega) (by omega)

/-- zzDecAdd: the numeral of the sum. -/
theorem zzDecAdd_any (m : ByteArray) (d : Int) (w : World) (hm0 : 18 ≤ m.size) (hm : m.size ≤ 4194304) (ha : allD m.data.toList = true) (hd0 : -1000000000000000000 < d) (hd1 : d < 1000000000000000000) (hge : 0 ≤ (val m.data.toList : Int) + d) :
    Calls Tryd.prog 13 #[.string m, .int .i64 d] w fun e w' => e = .returned (.string ⟨(decDigits (val m.data.toList + d).toNat).toArray⟩) ∧ Below w.heap.size w w' := by
  by_cases h : 0 ≤ d
  · obtain ⟨D, rfl⟩ := Int.eq_ofNat_of_zero_le h
    rw [show ((val m.data.toList : Int) + (D : Int)).toNat = val m.data.toList + D by omega]
    exact zzDecAdd_add m D w hm0 hm ha (by omega)
  · obtain ⟨D, hD⟩ := Int.eq_ofNat_of_zero_le (show 0 ≤ -d by omega)
    obtain rfl : d = -(D : Int) := by omega
    rw [show ((val m.data.toList : Int) + -(D : Int)).toNat = val m.data.toList - D by omega]
    exact zzDecAdd_sub m D w hm0 hm ha (by omega) (by omega) (by omega)

set_option maxHeartbeats 400000 in
theorem ZZAddToMagnitude_any (nm : String) (h38 : Said38 nm) (h39 : Said39) (h40 : Said40) (m : ByteArray) (d : Int) (w : World) (htab : Tab nm w) (hm0 : 19 ≤ m.size) (hm : m.size ≤ 4194304) (ha : allD m.data.toList = true)
    (hd0 : -1000000000000000000 < d) (hd1 : d < 1000000000000000000) (hv18 : 1000000000000000000 ≤ val m.data.toList) :
    Calls Tryd.prog 12 #[.string m, .int .i64 d] w fun e w' => e = .returned (.string ⟨(decDigits (val m.data.toList + d).toNat).toArray⟩) ∧ Below w.heap.size w w' := by
  have HC := hide (addToMagnitude_any nm h38 h39 h40 m d w htab hm0 hm ha hd0 hd1 hv18)
  clear ha hv18
  go_enter Tryd.func12, Tryd.ntmps12
  go_wp2_with fail
  refine HC.out.mono ?_
  rintro e w1 ⟨rfl, hb⟩
  go_wp2
  go_ret
  exact ⟨rfl, hb⟩

theorem ge_pow18 {m : ByteArray} (h0 : 0 < m.size) (hm : 19 ≤ m.size) (ha : allD m.data.toList = true) (hz : m[0] ≠ 48) : 1000000000000000000 ≤ val m.data.toList := by
  obtain ⟨⟨l⟩⟩ := m
  cases l with
  | nil => exact absurd (show 0 < ([] : List UInt8).length from h0) (by simp)
  | cons c l =>
    have h1 := pos_of_head (l := l) (allD_mem ha (c := c) (by simp)) (show c ≠ 48 from fun e => hz e)
    have hm' : 19 ≤ (c :: l).length := hm
    rw [List.length_cons] at hm'
    have h2 : 10 ^ 18 ≤ 10 ^ l.length := Nat.pow_le_pow_right (by decide) (by omega)
    rw [pow18] at h2
    show 1000000000000000000 ≤ val (c :: l)
    omega

set_option maxHeartbeats 1000000 in
set_option maxRecDepth 100000 in
theorem law3 (nm : String) (h38 : Said38 nm) (h39 : Said39) (h40 : Said40) (m : ByteArray) (d : Int) (w : World) (htab : Tab nm w) (hs : m.size ≤ maxLen) :
    Calls Tryd.prog 3 #[.string m, .int .i64 d] w fun e w' => e = .returned (.bool true) ∧ Below w.heap.size w w' := by
  unfold maxLen at hs
  by_cases h1 : m.size ≤ 1048576
  · by_cases h2 : m.size ≤ 18
    · go_enter Tryd.func3, Tryd.ntmps3
      go_wp2
      go_ret
      exact ⟨rfl, Below.refl _ _⟩
    · have hpos : 0 < m.size := by omega
      have HC11 := hide (zzAllDigits_any m w (by unfold maxLen; omega))
      by_cases h3 : allD m.data.toList = true
      · rw [h3] at HC11
        by_cases h4 : m[0] = 48
        · have h5 : ((m[0].toNat : Int) == 48) = true := by rw [h4]; rfl
          go_enter Tryd.func3, Tryd.ntmps3
          go_wp2_with (first | (go_at_call 11; refine HC11.out.mono ?_; rintro e w1 ⟨rfl, rfl⟩) | (go_at_call 10; go_in))
          go_ret
          exact ⟨rfl, Below.refl _ _⟩
        · have h5 : ((m[0].toNat : Int) == 48) = false := by
            rw [beq_eq_false_iff_ne]; intro e; exact h4 (UInt8.toNat_inj.1 (by show m[0].toNat = 48; omega))
          by_cases h6 : -1000000000000000000 < d
          · by_cases h7 : d < 1000000000000000000
            · have hv := ge_pow18 hpos (by omega) h3 h4
              have HC12 := hide (ZZAddToMagnitude_any nm h38 h39 h40 m d w htab (by omega) (by omega) h3 h6 h7 hv)
              have HC13 := hide (fun wx => zzDecAdd_any m d wx (by omega) (by omega) h3 h6 h7 (by omega))
              clear h3 hv h4
              go_enter Tryd.func3, Tryd.ntmps3
              go_wp2_with (first | (go_at_call 11; refine HC11.out.mono ?_; rintro e w1 ⟨rfl, rfl⟩) | (go_at_call 10; go_in))
              refine HC12.out.mono ?_
              rintro e w1 ⟨rfl, hb1⟩
              go_wp2_with fail
              refine (HC13.out w1).mono ?_
              rintro e w2 ⟨rfl, hb2⟩
              go_wp2
              go_ret
              exact ⟨ret_bool (by simp), hb1.trans (hb2.mono hb1.size)⟩
            · go_enter Tryd.func3, Tryd.ntmps3
              go_wp2_with (first | (go_at_call 11; refine HC11.out.mono ?_; rintro e w1 ⟨rfl, rfl⟩) | (go_at_call 10; go_in))
              go_ret
              exact ⟨rfl, Below.refl _ _⟩
          · go_enter Tryd.func3, Tryd.ntmps3
            go_wp2_with (first | (go_at_call 11; refine HC11.out.mono ?_; rintro e w1 ⟨rfl, rfl⟩) | (go_at_call 10; go_in))
            go_ret
            exact ⟨rfl, Below.refl _ _⟩
      · have h3' : allD m.data.toList = false := by simpa using h3
        rw [h3'] at HC11
        clear h3 h3'
        go_enter Tryd.func3, Tryd.ntmps3
        go_wp2_with (first | (go_at_call 11; refine HC11.out.mono ?_; rintro e w1 ⟨rfl, rfl⟩) | (go_at_call 10; go_in))
        go_ret
        exact ⟨rfl, Below.refl _ _⟩
  · go_enter Tryd.func3, Tryd.ntmps3
    go_wp2
    go_ret
    exact ⟨rfl, Below.refl _ _⟩

end Go.Proofs.Qxb6601790aDoor
