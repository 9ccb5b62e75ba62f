/-
  FnSignificandMatchesDigitModel at every input.
-/
import Derived.Test.Qxb6602829aDoorWb
namespace Go.Proofs.Qxb6602829aDoor
open Go.RowKit Pl

set_option maxHeartbeats 2000000 in
set_option maxRecDepth 100000 in
/-- Too long: the law returns true at once. -/
theorem law_long (n ne : Bool) (I F X : ByteArray) (w : World) (h1 : I.size ≤ 9223372036854775807) (h2 : F.size ≤ 9223372036854775807) (h3 : X.size ≤ 9223372036854775807) (hsum : 1048576 < I.size + F.size + X.size) :
    Calls Tryd.prog 3 #[.bool n, .string I, .string F, .bool ne, .string X] w fun e w' => e = .returned (.bool true) ∧ w' = w := by
  by_cases c1 : I.size ≤ 1048576
  · by_cases c2 : F.size ≤ 1048576
    · by_cases c3 : I.size + F.size ≤ 1048576
      · by_cases c4 : X.size ≤ 1048576
        · go_enter Tryd.func3, Tryd.ntmps3
          go_wp2
          go_ret
          exact ⟨rfl, rfl⟩
        · go_enter Tryd.func3, Tryd.ntmps3
          go_wp2
          go_ret
          exact ⟨rfl, rfl⟩
      · go_enter Tryd.func3, Tryd.ntmps3
        go_wp2
        go_ret
        exact ⟨rfl, rfl⟩
    · go_enter Tryd.func3, Tryd.ntmps3
      go_wp2
      go_ret
      exact ⟨rfl, rfl⟩
  · go_enter Tryd.func3, Tryd.ntmps3
    go_wp2
    go_ret
    exact ⟨rfl, rfl⟩

set_option maxHeartbeats 2000000 in
set_option maxRecDepth 100000 in
/-- A byte that is no digit: the law returns true at once. -/
theorem law_nodigits (n ne : Bool) (I F X : ByteArray) (w : World) (hsum : I.size + F.size + X.size ≤ 1048576) (hd : (allD I.data.toList && allD F.data.toList && allD X.data.toList) = false) :
    Calls Tryd.prog 3 #[.bool n, .string I, .string F, .bool ne, .string X] w fun e w' => e = .returned (.bool true) ∧ w' = w := by
  have b1 : I.size ≤ 1048576 := by omega
  have b2 : F.size ≤ 1048576 := by omega
  have b3 : X.size ≤ 1048576 := by omega
  have HI := hide (zzAllDigits_any I w (by unfold maxLen; omega))
  have HF := hide (zzAllDigits_any F w (by unfold maxLen; omega))
  have HX := hide (zzAllDigits_any X w (by unfold maxLen; omega))
  cases eI : allD I.data.toList with
  | false =>
    rw [eI] at HI
    clear hd eI HF HX
    go_enter Tryd.func3, Tryd.ntmps3
    go_wp2_with (first | (go_at_call 4; go_in) | fail)
    refine HI.out.mono ?_
    rintro e w1 ⟨rfl, rfl⟩
    go_wp2_with fail
    go_ret
    exact ⟨rfl, rfl⟩
  | true =>
    rw [eI] at HI
    cases eF : allD F.data.toList with
    | false =>
      rw [eF] at HF
      clear hd eI eF HX
      go_enter Tryd.func3, Tryd.ntmps3
      go_wp2_with (first | (go_at_call 4; go_in) | fail)
      refine HI.out.mono ?_
      rintro e w1 ⟨rfl, rfl⟩
      go_wp2_with fail
      refine HF.out.mono ?_
      rintro e w1 ⟨rfl, rfl⟩
      go_wp2_with fail
      go_ret
      exact ⟨rfl, rfl⟩
    | true =>
      have eX : allD X.data.toList = false := by rw [eI, eF] at hd; simpa using hd
      rw [eF] at HF
      rw [eX] at HX
      clear hd eI eF eX
      go_enter Tryd.func3, Tryd.ntmps3
      go_wp2_with (first | (go_at_call 4; go_in) | fail)
      refine HI.out.mono ?_
      rintro e w1 ⟨rfl, rfl⟩
      go_wp2_with fail
      refine HF.out.mono ?_
      rintro e w1 ⟨rfl, rfl⟩
      go_wp2_with fail
      refine HX.out.mono ?_
      rintro e w1 ⟨rfl, rfl⟩
      go_wp2_with fail
      go_ret
      exact ⟨rfl, rfl⟩

end Go.Proofs.Qxb6602829aDoor
