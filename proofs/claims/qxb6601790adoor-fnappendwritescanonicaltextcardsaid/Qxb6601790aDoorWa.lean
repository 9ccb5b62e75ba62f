/-
  Walks of the leaves: zzAllDigits, digitsValue.
-/
import Derived.Test.Qxb6601790aDoorChecked
import Derived.Test.Qxb6601790aDoorNum
import Derived.WalkKit
import Derived.Handy
namespace Go.Proofs.Qxb6601790aDoor
open Go.RowKit Num

theorem hide {p : Prop} (h : p) : Hid p := h
theorem ret_int {k : IntKind} {a b : Int} (h : a = b) : Ending.returned (.int k a) = .returned (.int k b) := by rw [h]
theorem ret_bool {a b : Bool} (h : a = b) : Ending.returned (.bool a) = .returned (.bool b) := by rw [h]
theorem take_snoc (s : ByteArray) (k : Nat) (h : k < s.size) : s.data.toList.take (k + 1) = s.data.toList.take k ++ [s[k]] := by
  rw [List.take_succ_eq_append_getElem (by simpa using h)]; rfl
theorem take_all (s : ByteArray) (k : Nat) (h : ¬ k < s.size) : s.data.toList.take k = s.data.toList := List.take_of_length_le (by simp; omega)
theorem mem_at (s : ByteArray) (k : Nat) (h : k < s.size) : s[k] ∈ s.data.toList := List.getElem_mem (l := s.data.toList) (n := k) (by simpa using h)

set_option maxHeartbeats 400000 in
/-- zzAllDigits: is every byte a digit? -/
theorem zzAllDigits_any (s : ByteArray) (w : World) (hs : s.size ≤ maxLen) :
    Calls Tryd.prog 11 #[.string s] w fun e w' => e = .returned (.bool (allD s.data.toList)) ∧ w' = w := by
  unfold maxLen at hs
  go_enter Tryd.func11, Tryd.ntmps11
  go_wp2
  go_loop [3] (fun i => ∃ k : Nat, k ≤ s.size ∧ i = .int .i64 k ∧ allD (s.data.toList.take k) = true) (fun i => s.size - (intOf i).toNat)
  case atStart => exact ⟨0, Nat.zero_le _, rfl, rfl⟩
  case round =>
    obtain ⟨k, hk, rfl, hd⟩ := hrel
    have HD : Hid (allD (s.data.toList.take k) = true) := hd
    clear hd
    by_cases hlt : k < s.size
    · by_cases h1 : (s[k].toNat : Int) < 48
      · go_wp2
        go_ret
        refine ⟨ret_bool ?_, rfl⟩
        cases e : allD s.data.toList with
        | false => rfl
        | true => have := (isDig_iff _).1 (allD_mem e (mem_at s k hlt)); omega
      · by_cases h2 : (57 : Int) < (s[k].toNat : Int)
        · go_wp2
          go_ret
          refine ⟨ret_bool ?_, rfl⟩
          cases e : allD s.data.toList with
          | false => rfl
          | true => have := (isDig_iff _).1 (allD_mem e (mem_at s k hlt)); omega
        · go_wp2
          go_round
          case rel => exact ⟨k + 1, by omega, by go_num, by rw [take_snoc s k hlt, allD_append, HD.out, allD_cons, allD_nil, Bool.true_and, Bool.and_true, isDig_iff]; omega⟩
          case measure => simp [intOf]; omega
    · go_wp2
      go_ret
      exact ⟨ret_bool (by rw [← HD.out, take_all s k hlt]), rfl⟩

theorem val_le_18 {l : List UInt8} (h : allD l = true) (hl : l.length ≤ 18) : val l < 1000000000000000000 := by
  have h1 := val_lt h
  have h2 : 10 ^ l.length ≤ 10 ^ 18 := Nat.pow_le_pow_right (by decide) hl
  have h3 : 10 ^ 18 = 1000000000000000000 := by decide
  omega

set_option maxHeartbeats 400000 in
/-- digitsValue, of at most 18 digits: their number. -/
theorem digitsValue_any (s : ByteArray) (w : World) (hs : s.size ≤ 18) (hd : allD s.data.toList = true) :
    Calls Tryd.prog 37 #[.string s] w fun e w' => e = .returned (.int .i64 (val s.data.toList)) ∧ w' = w := by
  have HA : Hid (allD s.data.toList = true) := hd
  clear hd
  go_enter Tryd.func37, Tryd.ntmps37
  go_wp2
  go_loop [3, 4] (fun v i => ∃ k : Nat, k ≤ s.size ∧ i = .int .i64 k ∧ v = .int .i64 (val (s.data.toList.take k))) (fun _ i => s.size - (intOf i).toNat)
  case atStart => exact ⟨0, Nat.zero_le _, rfl, rfl⟩
  case round =>
    obtain ⟨k, hk, rfl, rfl⟩ := hrel
    by_cases hlt : k < s.size
    · have hb := (isDig_iff _).1 (allD_mem HA.out (mem_at s k hlt))
      have hv := val_le_18 (allD_take HA.out k) (by rw [List.length_take]; omega)
      have hv1 := val_le_18 (allD_take HA.out (k + 1)) (by rw [List.length_take]; omega)
      have HS : Hid (val (s.data.toList.take (k + 1)) = val (s.data.toList.take k) * 10 + dv s[k]) := by rw [take_snoc s k hlt, val_snoc]; rfl
      have hv2 : val (s.data.toList.take k) * 10 + (s[k].toNat - 48) < 1000000000000000000 := by have := HS.out; unfold dv at this; omega
      obtain ⟨hb1, hb2⟩ := hb
      go_wp2
      go_round
      case rel => exact ⟨k + 1, by omega, by go_num, by rw [HS.out]; unfold dv; go_num⟩
      case measure => simp [intOf]; omega
    · go_wp2
      go_ret
      exact ⟨ret_int (by rw [take_all s k hlt]), rfl⟩

end Go.Proofs.Qxb6601790aDoor
