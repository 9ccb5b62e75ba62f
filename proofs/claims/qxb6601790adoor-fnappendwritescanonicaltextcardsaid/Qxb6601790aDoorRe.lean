/-
  Walks of the reader's leaves: isDigit, skipDigits, scanExponent.
-/
import Derived.Test.Qxb6601790aDoorRd
import Derived.Test.Qxb6601790aDoorWd
namespace Go.Proofs.Qxb6601790aDoor
open Go.RowKit Num
open Go.Lib (decDigits)

theorem isDig_false_lo {c : UInt8} (h : (c.toNat : Int) < 48) : isDig c = false := by
  cases e : isDig c with
  | false => rfl
  | true => have := (isDig_iff c).1 e; omega
theorem isDig_false_hi {c : UInt8} (h : (57 : Int) < (c.toNat : Int)) : isDig c = false := by
  cases e : isDig c with
  | false => rfl
  | true => have := (isDig_iff c).1 e; omega
theorem isDig_true {c : UInt8} (h : ¬ (c.toNat : Int) < 48) (h2 : ¬ (57 : Int) < (c.toNat : Int)) : isDig c = true := by rw [isDig_iff]; omega

theorem isDigit_any (c : UInt8) (w : World) : Calls Tryd.prog 58 #[.int .u8 c.toNat] w fun e w' => e = .returned (.bool (isDig c)) ∧ w' = w := by
  by_cases h1 : (c.toNat : Int) < 48
  · go_enter Tryd.func58, Tryd.ntmps58
    go_wp2
    go_ret
    exact ⟨ret_bool (isDig_false_lo h1).symm, rfl⟩
  · have hd : isDig c = decide ((c.toNat : Int) ≤ 57) := by
      by_cases h2 : (57 : Int) < (c.toNat : Int)
      · rw [isDig_false_hi h2, decide_eq_false (by omega)]
      · rw [isDig_true h1 h2, decide_eq_true (by omega)]
    have HD := hide hd
    clear hd
    go_enter Tryd.func58, Tryd.ntmps58
    go_wp2
    go_ret
    exact ⟨ret_bool HD.out.symm, rfl⟩

theorem drop_at (s : ByteArray) (k : Nat) (h : k < s.size) : s.data.toList.drop k = s[k] :: s.data.toList.drop (k + 1) := by
  rw [List.drop_eq_getElem_cons (by simpa using h)]; rfl
theorem drop_all (s : ByteArray) (k : Nat) (h : ¬ k < s.size) : s.data.toList.drop k = [] := List.drop_eq_nil_of_le (by simp; omega)

/-- Where the digits that begin at i end. -/
def skipD (l : List UInt8) (i : Nat) : Nat := i + (dg (l.drop i)).length
theorem skipD_dig {s : ByteArray} {k : Nat} (h : k < s.size) (hd : isDig s[k] = true) : skipD s.data.toList k = skipD s.data.toList (k + 1) := by
  unfold skipD
  rw [drop_at s k h]
  simp [dg, List.takeWhile, hd]
  omega
theorem skipD_not {s : ByteArray} {k : Nat} (h : k < s.size) (hd : isDig s[k] = false) : skipD s.data.toList k = k := by
  unfold skipD
  rw [drop_at s k h]
  simp [dg, List.takeWhile, hd]
theorem skipD_end {s : ByteArray} {k : Nat} (h : ¬ k < s.size) : skipD s.data.toList k = k := by
  unfold skipD
  rw [drop_all s k h]
  simp [dg]
theorem skipD_le (s : ByteArray) (k : Nat) (h : k ≤ s.size) : skipD s.data.toList k ≤ s.size := by
  unfold skipD
  have h1 := (List.takeWhile_prefix (l := s.data.toList.drop k) isDig).length_le
  rw [List.length_drop, len_data] at h1
  unfold dg
  omega

set_option maxHeartbeats 400000 in
theorem skipDigits_any (s : ByteArray) (i : Nat) (w : World) (hs : s.size ≤ 4194304) (hi : i ≤ s.size) :
    Calls Tryd.prog 41 #[.string s, .int .i64 i] w fun e w' => e = .returned (.int .i64 (skipD s.data.toList i : Nat)) ∧ w' = w := by
  go_enter Tryd.func41, Tryd.ntmps41
  go_wp2
  go_loop [1] (fun v => ∃ k : Nat, k ≤ s.size ∧ v = .int .i64 k ∧ skipD s.data.toList i = skipD s.data.toList k) (fun v => s.size - (intOf v).toNat)
  case atStart => exact ⟨i, hi, rfl, rfl⟩
  case round =>
    obtain ⟨k, hk, rfl, he⟩ := hrel
    have HE := hide he
    clear he
    by_cases hlt : k < s.size
    · have HD := hide (isDigit_any s[k])
      cases hd : isDig s[k] with
      | true =>
        rw [hd] at HD
        have H2 := hide (skipD_dig hlt hd)
        clear hd
        go_wp2_with (go_at_call 58; refine (HD.out _).mono ?_; rintro e w1 ⟨rfl, rfl⟩)
        go_round
        case rel => exact ⟨k + 1, by omega, by go_num, by rw [HE.out, H2.out]⟩
        case measure => simp [intOf]; omega
      | false =>
        rw [hd] at HD
        have H2 := hide (skipD_not hlt hd)
        clear hd
        go_wp2_with (go_at_call 58; refine (HD.out _).mono ?_; rintro e w1 ⟨rfl, rfl⟩)
        go_ret
        exact ⟨ret_int (by rw [HE.out, H2.out]), rfl⟩
    · have H2 := hide (skipD_end hlt)
      go_wp2
      go_ret
      exact ⟨ret_int (by rw [HE.out, H2.out]), rfl⟩

/-- The place behind the exponent's sign. -/
def sgAt (s : ByteArray) (i : Nat) : Nat := if h : i < s.size then (if isSg s[i] then i + 1 else i) else i
theorem sgAt_le (s : ByteArray) (i : Nat) (h : i ≤ s.size) : sgAt s i ≤ s.size := by
  unfold sgAt
  split
  · split <;> omega
  · exact h
theorem sgAt_ge (s : ByteArray) (i : Nat) : i ≤ sgAt s i := by
  unfold sgAt
  split
  · split <;> omega
  · omega
theorem beq_byte {c d : UInt8} {z : Int} (hz : z = d.toNat) : ((c.toNat : Int) == z) = (c == d) := by
  subst hz
  by_cases h : c = d
  · rw [h]; simp
  · rw [show (c == d) = false by simpa using h, beq_eq_false_iff_ne]
    intro e
    exact h (UInt8.toNat_inj.1 (by omega))
/-- What scanExponent hands back. -/
def scanV (s : ByteArray) (i j k : Nat) : Value := if k = j then .tuple #[.string ⟨#[]⟩, .int .i64 (k : Int), .bool false] else .tuple #[.string (s.extract (i + 1) k), .int .i64 (k : Int), .bool true]
theorem scanV_no {s : ByteArray} {i j k : Nat} (h : k = j) : Ending.returned (.tuple #[.string ⟨#[]⟩, .int .i64 (k : Int), .bool false]) = .returned (scanV s i j k) := by unfold scanV; rw [if_pos h]
theorem scanV_yes {s : ByteArray} {i j k : Nat} (h : k ≠ j) : Ending.returned (.tuple #[.string (s.extract (i + 1) k), .int .i64 (k : Int), .bool true]) = .returned (scanV s i j k) := by unfold scanV; rw [if_neg h]

set_option maxHeartbeats 1000000 in
theorem scanExponent_any (s : ByteArray) (i : Nat) (w : World) (hs : s.size ≤ 4194304) (hi : i < s.size) :
    Calls Tryd.prog 42 #[.string s, .int .i64 i] w fun e w' => e = .returned (scanV s i (sgAt s (i + 1)) (skipD s.data.toList (sgAt s (i + 1)))) ∧ w' = w := by
  have HS := hide (fun k w => skipDigits_any s k w hs)
  by_cases h1 : i + 1 < s.size
  · have hsg : sgAt s (i + 1) = if isSg s[i + 1] then i + 1 + 1 else i + 1 := by unfold sgAt; rw [dif_pos h1]
    cases h43 : (s[i + 1] == 43) with
    | true =>
      have h3 : ((s[i + 1].toNat : Int) == 43) = true := (beq_byte (c := s[i + 1]) (d := 43) (z := 43) rfl).trans h43
      have hj : sgAt s (i + 1) = i + 1 + 1 := by rw [hsg]; unfold isSg; rw [h43]; rfl
      rw [hj]
      have hk0 : i + 1 + 1 ≤ skipD s.data.toList (i + 1 + 1) := by unfold skipD; omega
      have hk := skipD_le s (i + 1 + 1) (by omega)
      have HSj := hide (fun w => HS.out (i + 1 + 1) w (by omega))
      generalize skipD s.data.toList (i + 1 + 1) = k at *
      clear hj
      by_cases hkj : k = i + 1 + 1
      · have FIN := hide (scanV_no (s := s) (i := i) hkj)
        have hb : ((k : Int) == ((i : Int) + 1 + 1)) = true := by rw [beq_iff_eq]; omega
        clear hkj
        go_enter Tryd.func42, Tryd.ntmps42
        go_wp2_with (go_at_call 41; refine (HSj.out _).mono ?_; rintro e w1 ⟨rfl, rfl⟩)
        go_ret3
        exact ⟨FIN.out, rfl⟩
      · have FIN := hide (scanV_yes (s := s) (i := i) hkj)
        have hb : ((k : Int) == ((i : Int) + 1 + 1)) = false := by rw [beq_eq_false_iff_ne]; omega
        clear hkj
        go_enter Tryd.func42, Tryd.ntmps42
        go_wp2_with (go_at_call 41; refine (HSj.out _).mono ?_; rintro e w1 ⟨rfl, rfl⟩)
        go_ret3
        exact ⟨FIN.out, rfl⟩
    | false =>
      have h3 : ((s[i + 1].toNat : Int) == 43) = false := (beq_byte (c := s[i + 1]) (d := 43) (z := 43) rfl).trans h43
      cases h45 : (s[i + 1] == 45) with
      | true =>
        have h4 : ((s[i + 1].toNat : Int) == 45) = true := (beq_byte (c := s[i + 1]) (d := 45) (z := 45) rfl).trans h45
        have hj : sgAt s (i + 1) = i + 1 + 1 := by rw [hsg]; unfold isSg; rw [h43, h45]; rfl
        rw [hj]
        have hk0 : i + 1 + 1 ≤ skipD s.data.toList (i + 1 + 1) := by unfold skipD; omega
        have hk := skipD_le s (i + 1 + 1) (by omega)
        have HSj := hide (fun w => HS.out (i + 1 + 1) w (by omega))
        generalize skipD s.data.toList (i + 1 + 1) = k at *
        clear hj
        by_cases hkj : k = i + 1 + 1
        · have FIN := hide (scanV_no (s := s) (i := i) hkj)
          have hb : ((k : Int) == ((i : Int) + 1 + 1)) = true := by rw [beq_iff_eq]; omega
          clear hkj
          go_enter Tryd.func42, Tryd.ntmps42
          go_wp2_with (go_at_call 41; refine (HSj.out _).mono ?_; rintro e w1 ⟨rfl, rfl⟩)
          go_ret3
          exact ⟨FIN.out, rfl⟩
        · have FIN := hide (scanV_yes (s := s) (i := i) hkj)
          have hb : ((k : Int) == ((i : Int) + 1 + 1)) = false := by rw [beq_eq_false_iff_ne]; omega
          clear hkj
          go_enter Tryd.func42, Tryd.ntmps42
          go_wp2_with (go_at_call 41; refine (HSj.out _).mono ?_; rintro e w1 ⟨rfl, rfl⟩)
          go_ret3
          exact ⟨FIN.out, rfl⟩
      | false =>
        have h4 : ((s[i + 1].toNat : Int) == 45) = false := (beq_byte (c := s[i + 1]) (d := 45) (z := 45) rfl).trans h45
        have hj : sgAt s (i + 1) = i + 1 := by rw [hsg]; unfold isSg; rw [h43, h45]; rfl
        rw [hj]
        have hk0 : i + 1 ≤ skipD s.data.toList (i + 1) := by unfold skipD; omega
        have hk := skipD_le s (i + 1) (by omega)
        have HSj := hide (fun w => HS.out (i + 1) w (by omega))
        generalize skipD s.data.toList (i + 1) = k at *
        clear hj
        by_cases hkj : k = i + 1
        · have FIN := hide (scanV_no (s := s) (i := i) hkj)
          have hb : ((k : Int) == ((i : Int) + 1)) = true := by rw [beq_iff_eq]; omega
          clear hkj
          go_enter Tryd.func42, Tryd.ntmps42
          go_wp2_with (go_at_call 41; refine (HSj.out _).mono ?_; rintro e w1 ⟨rfl, rfl⟩)
          go_ret3
          exact ⟨FIN.out, rfl⟩
        · have FIN := hide (scanV_yes (s := s) (i := i) hkj)
          have hb : ((k : Int) == ((i : Int) + 1)) = false := by rw [beq_eq_false_iff_ne]; omega
          clear hkj
          go_enter Tryd.func42, Tryd.ntmps42
          go_wp2_with (go_at_call 41; refine (HSj.out _).mono ?_; rintro e w1 ⟨rfl, rfl⟩)
          go_ret3
          exact ⟨FIN.out, rfl⟩
  · have hj : sgAt s (i + 1) = i + 1 := by unfold sgAt; rw [dif_neg h1]
    rw [hj]
    have hk0 : i + 1 ≤ skipD s.data.toList (i + 1) := by unfold skipD; omega
    have hk := skipD_le s (i + 1) (by omega)
    have HSj := hide (fun w => HS.out (i + 1) w (by omega))
    generalize skipD s.data.toList (i + 1) = k at *
    clear hj
    by_cases hkj : k = i + 1
    · have FIN := hide (scanV_no (s := s) (i := i) hkj)
      have hb : ((k : Int) == ((i : Int) + 1)) = true := by rw [beq_iff_eq]; omega
      clear hkj
      go_enter Tryd.func42, Tryd.ntmps42
      go_wp2_with (go_at_call 41; refine (HSj.out _).mono ?_; rintro e w1 ⟨rfl, rfl⟩)
      go_ret3
      exact ⟨FIN.out, rfl⟩
    · have FIN := hide (scanV_yes (s := s) (i := i) hkj)
      have hb : ((k : Int) == ((i : Int) + 1)) = false := by rw [beq_eq_false_iff_ne]; omega
      clear hkj
      go_enter Tryd.func42, Tryd.ntmps42
      go_wp2_with (go_at_call 41; refine (HSj.out _).mono ?_; rintro e w1 ⟨rfl, rfl⟩)
      go_ret3
      exact ⟨FIN.out, rfl⟩

end Go.Proofs.Qxb6601790aDoor
