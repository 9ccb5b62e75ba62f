/-
  The walks of the leaves.
-/
import Derived.Test.Qxb6602829aDoorChecked
import Derived.Test.Qxb6602829aDoorShelf
import Derived.Test.Qxb6602829aDoorPl
import Derived.WalkKit
import Derived.Handy
import Derived.WalkSpells
import Derived.Lib.Strings
import Derived.Lib.Walk
import Derived.Lib.FieldsLaws
namespace Go.Proofs.Qxb6602829aDoor
open Go.RowKit Pl

theorem hide {p : Prop} (h : p) : Hid p := h
theorem ret_int {k : IntKind} {a b : Int} (h : a = b) : Ending.returned (.int k a) = .returned (.int k b) := by rw [h]
theorem ret_bool {a b : Bool} (h : a = b) : Ending.returned (.bool a) = .returned (.bool b) := by rw [h]
theorem take_snoc (s : ByteArray) (k : Nat) (h : k < s.size) : s.data.toList.take (k + 1) = s.data.toList.take k ++ [s[k]] := by
  rw [List.take_succ_eq_append_getElem (by simpa using h)]; rfl
theorem take_all (s : ByteArray) (k : Nat) (h : ¬ k < s.size) : s.data.toList.take k = s.data.toList := List.take_of_length_le (by simp; omega)
theorem mem_at (s : ByteArray) (k : Nat) (h : k < s.size) : s[k] ∈ s.data.toList := List.getElem_mem (l := s.data.toList) (n := k) (by simpa using h)
theorem getD_byte (v : ByteArray) (k : Nat) (h : k < v.size) : v.data.toList.getD k 0 = v[k] := by
  rw [List.getD, Lib.data_getElem? v k h]; rfl

set_option maxHeartbeats 400000 in
/-- zzAllDigits: is every byte a digit? -/
theorem zzAllDigits_any (s : ByteArray) (w : World) (hs : s.size ≤ maxLen) :
    Calls Tryd.prog 5 #[.string s] w fun e w' => e = .returned (.bool (allD s.data.toList)) ∧ w' = w := by
  unfold maxLen at hs
  go_enter Tryd.func5, Tryd.ntmps5
  go_wp2
  go_loop [3] (fun i => ∃ k : Nat, k ≤ s.size ∧ i = .int .i64 k ∧ allD (s.data.toList.take k) = true) (fun i => s.size - (intOf i).toNat)
  case atStart => exact ⟨0, Nat.zero_le _, rfl, rfl⟩
  case round =>
    obtain ⟨k, hk, rfl, hd⟩ := hrel
    have HD : Hid (allD (s.data.toList.take k) = true) := hd
    clear hd
    by_cases hlt : k < s.size
    · by_cases h1 : (s[k].toNat : Int) < 48
      · go_wp2
        go_ret
        refine ⟨ret_bool ?_, rfl⟩
        cases e : allD s.data.toList with
        | false => rfl
        | true => have := (isDig_iff _).1 (allD_mem e (mem_at s k hlt)); omega
      · by_cases h2 : (57 : Int) < (s[k].toNat : Int)
        · go_wp2
          go_ret
          refine ⟨ret_bool ?_, rfl⟩
          cases e : allD s.data.toList with
          | false => rfl
          | true => have := (isDig_iff _).1 (allD_mem e (mem_at s k hlt)); omega
        · go_wp2
          go_round
          case rel => exact ⟨k + 1, by omega, by go_num, by rw [take_snoc s k hlt, allD_append, HD.out, allD_cons, allD_nil, Bool.true_and, Bool.and_true, isDig_iff]; omega⟩
          case measure => simp [intOf]; omega
    · go_wp2
      go_ret
      exact ⟨ret_bool (by rw [← HD.out, take_all s k hlt]), rfl⟩

/-- Byte i of the two texts in a row. -/
def at2 (a b : ByteArray) (i : Nat) : UInt8 := (a.data.toList ++ b.data.toList).getD i 0
theorem at2_left (a b : ByteArray) (i : Nat) (h : i < a.size) : at2 a b i = a[i] := by
  unfold at2; rw [List.getD, List.getElem?_append_left (by rw [← Lib.size_eq]; exact h), Lib.data_getElem? a i h]; rfl
theorem at2_right (a b : ByteArray) (i : Nat) (h : ¬ i < a.size) (h2 : i - a.size < b.size) : at2 a b i = b[i - a.size] := by
  unfold at2; rw [List.getD, List.getElem?_append_right (by rw [← Lib.size_eq]; omega), ← Lib.size_eq, Lib.data_getElem? b _ h2]; rfl

set_option maxHeartbeats 400000 in
/-- zzDigitAt. -/
theorem zzDigitAt_any (a b : ByteArray) (i : Int) (w : World) (h0 : 0 ≤ i) (h1 : i < a.size + b.size) (_ha : a.size ≤ 1048576) (hb : b.size ≤ 1048576) :
    Calls Tryd.prog 8 #[.string a, .string b, .int .i64 i] w fun e w' => e = .returned (.int .u8 (at2 a b i.toNat).toNat) ∧ w' = w := by
  obtain ⟨n, rfl⟩ := Int.eq_ofNat_of_zero_le h0
  rw [Int.toNat_natCast]
  by_cases h : n < a.size
  · have HE := hide (at2_left a b n h)
    go_enter Tryd.func8, Tryd.ntmps8
    go_wp2
    go_ret
    exact ⟨by rw [HE.out]; rfl, rfl⟩
  · have h2 : n - a.size < b.size := by omega
    have HE := hide (at2_right a b n h h2)
    go_enter Tryd.func8, Tryd.ntmps8
    go_wp2
    go_ret
    exact ⟨by rw [HE.out]; rfl, rfl⟩

/-- What reading an exponent leaves. -/
structure Exp (l : List UInt8) (E : Nat) : Prop where
  small : val l < 1125899906842624 → E = val l
  big : 1125899906842624 ≤ val l → 1125899906842624 ≤ E
  le : E < 18014398509481984

set_option maxHeartbeats 1000000 in
set_option maxRecDepth 100000 in
/-- number.exponentValue. -/
theorem exponentValue_any (n ne : Bool) (I F X : ByteArray) (w : World) (hX : X.size ≤ 1048576) (hd : allD X.data.toList = true) :
    Calls Tryd.prog 13 #[.agg #[.bool n, .string I, .string F, .bool ne, .string X]] w fun e w' => (∃ E, Exp X.data.toList E ∧ e = .returned (.int .i64 (if ne then -(E : Int) else E))) ∧ Below w.heap.size w w' := by
  have HA := hide hd
  clear hd
  go_enter Tryd.func13, Tryd.ntmps13
  go_wp2
  go_loop [3, 4] (fun v i => ∃ k : Nat, k ≤ X.size ∧ i = .int .i64 k ∧ v = .int .i64 (val (X.data.toList.take k)) ∧ val (X.data.toList.take k) < 18014398509481984) (fun _ i => X.size - (intOf i).toNat)
  case atStart => exact ⟨0, Nat.zero_le _, rfl, rfl, by rw [List.take_zero, val_nil]; decide⟩
  case round =>
    obtain ⟨k, hk, rfl, rfl, hv⟩ := hrel
    have hmono := val_mono (l := X.data.toList) k
    have HM := hide hmono
    clear hmono
    by_cases hlt : k < X.size
    · have hb := (isDig_iff _).1 (allD_mem HA.out (mem_at X k hlt))
      obtain ⟨hb1, hb2⟩ := hb
      have HS : Hid (val (X.data.toList.take (k + 1)) = val (X.data.toList.take k) * 10 + dv X[k]) := by rw [take_snoc X k hlt, val_snoc]; rfl
      have HV := hide hv
      clear hv
      generalize val (X.data.toList.take k) = E at *
      by_cases hE : (E : Int) < 1125899906842624
      · have hE0 : (0 : Int) ≤ E := by omega
        go_wp2
        go_round
        case rel => exact ⟨k + 1, by omega, by go_num, by rw [HS.out]; unfold dv; go_num, by rw [HS.out]; unfold dv; omega⟩
        case measure => simp [intOf]; omega
      · have hExp : Exp X.data.toList E := ⟨fun h => by have := HM.out; omega, fun _ => by omega, HV.out⟩
        have HE := hide hExp
        have hEb : (E : Int) ≤ 18014398509481983 := by have := HV.out; omega
        clear hExp
        cases ne
        · go_wp2
          go_ret
          exact ⟨⟨_, HE.out, rfl⟩, (Below.refl _ _).alloc (Nat.le_refl _) _⟩
        · go_wp2
          go_ret
          exact ⟨⟨_, HE.out, rfl⟩, (Below.refl _ _).alloc (Nat.le_refl _) _⟩
    · have hfull := take_all X k hlt
      have hExp : Exp X.data.toList (val (X.data.toList.take k)) := by rw [hfull] at hv ⊢; exact ⟨fun _ => rfl, fun h => h, hv⟩
      have HE := hide hExp
      clear hExp hfull
      cases ne
      · go_wp2
        go_ret
        exact ⟨⟨_, HE.out, rfl⟩, (Below.refl _ _).alloc (Nat.le_refl _) _⟩
      · go_wp2
        go_ret
        exact ⟨⟨_, HE.out, rfl⟩, (Below.refl _ _).alloc (Nat.le_refl _) _⟩

/-- A digit that is not 0 ahead of sixteen more: 10^16 at least. -/
theorem big_of_long {l : List UInt8} {i : Nat} (ha : allD l = true) (hi : i < l.length) (hn : l.getD i 0 ≠ 48) (h : 16 < l.length - i) : 1125899906842624 ≤ val l := by
  have e : l = l.take i ++ (l.getD i 0 :: l.drop (i + 1)) := by
    conv => lhs; rw [← List.take_append_drop i l, List.drop_eq_getElem_cons hi]
    simp [List.getD, List.getElem?_eq_getElem hi]
  have hd : isDig (l.getD i 0) = true := allD_mem ha (by simp [List.getD, List.getElem?_eq_getElem hi])
  have h1 := pos_of_head (l := l.drop (i + 1)) hd hn
  have h2 : 10 ^ 16 ≤ 10 ^ (l.drop (i + 1)).length := Nat.pow_le_pow_right (by decide) (by rw [List.length_drop]; omega)
  have h3 : (10 : Nat) ^ 16 = 10000000000000000 := by decide
  rw [h3] at h2
  rw [e, val_append]
  omega
theorem val_drop_zeros {l : List UInt8} {i : Nat} (hz : ∀ j, j < i → l.getD j 0 = 48) (hi : i ≤ l.length) : val l = val (l.drop i) := by
  have e : l.take i = List.replicate i 48 := by
    apply List.ext_getElem
    · simp; omega
    · intro j h1 h2
      have hj : j < i := by simpa using h2
      have := hz j hj
      rw [List.getD, List.getElem?_eq_getElem (by omega)] at this
      simpa using this
  conv => lhs; rw [← List.take_append_drop i l, e, val_zeros_append]

/-- What zzExponentModel answers. -/
def expV (l : List UInt8) : Int := if val l < 1125899906842624 then (val l : Int) else 0
def expB (l : List UInt8) : Bool := decide (1125899906842624 ≤ val l)
theorem expV_eq (l : List UInt8) : expV l = if val l < 1125899906842624 then (val l : Int) else 0 := rfl
theorem expB_eq (l : List UInt8) : expB l = decide (1125899906842624 ≤ val l) := rfl
theorem lt16 {X : ByteArray} {k m : Nat} (ha : allD X.data.toList = true) (hz : ∀ j, j < k → X.data.toList.getD j 0 = 48) (hkm : k ≤ m) (hm : m ≤ X.size) (h : X.size - k ≤ 16) : val (X.data.toList.take m) < 10000000000000000 := by
  have hl : (X.data.toList.take m).length = m := by rw [List.length_take, ← Lib.size_eq]; omega
  rw [val_drop_zeros (i := k) (fun j hj => by
    have := hz j hj
    rw [List.getD, List.getElem?_take_of_lt (by omega)]; exact this) (by omega)]
  have h1 := val_lt (allD_drop (allD_take ha m) k)
  have h2 : 10 ^ ((X.data.toList.take m).drop k).length ≤ 10 ^ 16 := Nat.pow_le_pow_right (by decide) (by rw [List.length_drop, hl]; omega)
  have h3 : (10 : Nat) ^ 16 = 10000000000000000 := by decide
  omega
theorem take_zero {X : ByteArray} {k : Nat} (hz : ∀ j, j < k → X.data.toList.getD j 0 = 48) (hk : k ≤ X.size) : val (X.data.toList.take k) = 0 := by
  have hl : (X.data.toList.take k).length = k := by rw [List.length_take, ← Lib.size_eq]; omega
  rw [val_drop_zeros (i := k) (fun j hj => by
    have := hz j hj
    rw [List.getD, List.getElem?_take_of_lt (by omega)]; exact this) (by omega), List.drop_eq_nil_of_le (by omega)]
  rfl

set_option maxHeartbeats 2000000 in
set_option maxRecDepth 100000 in
/-- zzExponentModel. -/
theorem zzExponentModel_any (X : ByteArray) (w : World) (hX : X.size ≤ 1048576) (hd : allD X.data.toList = true) :
    Calls Tryd.prog 7 #[.string X] w fun e w' => e = .returned (.tuple #[.int .i64 (expV X.data.toList), .bool (expB X.data.toList)]) ∧ w' = w := by
  have HA := hide hd
  clear hd
  go_enter Tryd.func7, Tryd.ntmps7
  go_wp2
  go_loop [4] (fun i => ∃ k : Nat, k ≤ X.size ∧ i = .int .i64 k ∧ ∀ j, j < k → X.data.toList.getD j 0 = 48) (fun i => X.size - (intOf i).toNat)
  case atStart => exact ⟨0, Nat.zero_le _, rfl, fun j hj => absurd hj (Nat.not_lt_zero _)⟩
  case round =>
    obtain ⟨k, hk, rfl, hz⟩ := hrel
    have HZ := hide hz
    clear hz
    have HK0 := hide (take_zero HZ.out hk)
    by_cases hlt : k < X.size
    · by_cases h48 : X[k] = 48
      · have hb : ((X[k].toNat : Int) == 48) = true := by rw [h48]; rfl
        go_wp2
        go_round
        case rel =>
          refine ⟨k + 1, by omega, by go_num, fun j hj => ?_⟩
          by_cases e : j = k
          · subst e; rw [getD_byte X j hlt]; exact h48
          · exact HZ.out j (by omega)
        case measure => simp [intOf]; omega
      · have hb : ((X[k].toNat : Int) == 48) = false := by
          rw [beq_eq_false_iff_ne]; intro e; exact h48 (UInt8.toNat_inj.1 (by show X[k].toNat = 48; omega))
        by_cases h16 : 16 < X.size - k
        · have hbig := big_of_long HA.out (by rw [← Lib.size_eq]; exact hlt) (by rw [getD_byte X k hlt]; exact h48) (by rw [← Lib.size_eq]; exact h16)
          have HEV := hide (show expV X.data.toList = 0 by rw [expV_eq, if_neg (by omega)])
          have HEB := hide (show expB X.data.toList = true by rw [expB_eq, decide_eq_true hbig])
          clear hbig
          go_wp2
          go_ret2
          exact ⟨by rw [HEV.out, HEB.out]; rfl, rfl⟩
        · clear h48
          go_wp2_with fail
          go_loop [4, 5] (fun i v => ∃ m : Nat, k ≤ m ∧ m ≤ X.size ∧ i = .int .i64 m ∧ v = .int .u64 (val (X.data.toList.take m))) (fun i _ => X.size - (intOf i).toNat)
          case atStart => exact ⟨k, Nat.le_refl _, hk, rfl, by rw [HK0.out]; rfl⟩
          case round =>
            obtain ⟨m, hkm, hm, rfl, rfl⟩ := hrel
            have hlt16 := lt16 HA.out HZ.out hkm hm (by omega)
            by_cases hmlt : m < X.size
            · have hb3 := (isDig_iff _).1 (allD_mem HA.out (mem_at X m hmlt))
              obtain ⟨hb1, hb2⟩ := hb3
              have hlt16' := lt16 HA.out HZ.out (show k ≤ m + 1 by omega) (show m + 1 ≤ X.size by omega) (by omega)
              have HS : Hid (val (X.data.toList.take (m + 1)) = val (X.data.toList.take m) * 10 + dv X[m]) := by rw [take_snoc X m hmlt, val_snoc]; rfl
              have hbd : (val (X.data.toList.take m) : Int) * 10 + ((X[m].toNat : Int) - 48) ≤ 9999999999999999 := by rw [HS.out] at hlt16'; unfold dv at hlt16'; omega
              have hbd0 : (val (X.data.toList.take m) : Int) ≤ 9999999999999999 := by omega
              clear hlt16 hlt16'
              generalize val (X.data.toList.take m) = E at *
              have hE0 : (0 : Int) ≤ E := by omega
              go_wp2
              go_round
              case rel => exact ⟨m + 1, by omega, by omega, by go_num, by rw [HS.out]; unfold dv; go_num⟩
              case measure => simp [intOf]; omega
            · have hfull := take_all X m hmlt
              rw [hfull] at hlt16 ⊢
              have hbd0 : (val X.data.toList : Int) ≤ 9999999999999999 := by omega
              clear hlt16
              have HEV := hide (expV_eq X.data.toList)
              have HEB := hide (expB_eq X.data.toList)
              generalize val X.data.toList = E at *
              by_cases hbig : (1125899906842624 : Int) ≤ E
              · have HV1 := hide (HEV.out.trans (if_neg (by omega)))
                have HB1 := hide (HEB.out.trans (decide_eq_true (by omega)))
                go_wp2
                go_ret2
                exact ⟨by rw [HV1.out, HB1.out]; rfl, rfl⟩
              · have hE0 : (0 : Int) ≤ E := by omega
                have HV1 := hide (HEV.out.trans (if_pos (by omega)))
                have HB1 := hide (HEB.out.trans (decide_eq_false (by omega)))
                go_wp2
                go_ret2
                exact ⟨by rw [HV1.out, HB1.out]; rfl, rfl⟩
    · have h16 : ¬ 16 < X.size - k := by omega
      go_wp2_with fail
      go_loop [4, 5] (fun i v => ∃ m : Nat, k ≤ m ∧ m ≤ X.size ∧ i = .int .i64 m ∧ v = .int .u64 (val (X.data.toList.take m))) (fun i _ => X.size - (intOf i).toNat)
      case atStart => exact ⟨k, Nat.le_refl _, hk, rfl, by rw [HK0.out]; rfl⟩
      case round =>
        obtain ⟨m, hkm, hm, rfl, rfl⟩ := hrel
        have hlt16 := lt16 HA.out HZ.out hkm hm (by omega)
        by_cases hmlt : m < X.size
        · have hb3 := (isDig_iff _).1 (allD_mem HA.out (mem_at X m hmlt))
          obtain ⟨hb1, hb2⟩ := hb3
          have hlt16' := lt16 HA.out HZ.out (show k ≤ m + 1 by omega) (show m + 1 ≤ X.size by omega) (by omega)
          have HS : Hid (val (X.data.toList.take (m + 1)) = val (X.data.toList.take m) * 10 + dv X[m]) := by rw [take_snoc X m hmlt, val_snoc]; rfl
          have hbd : (val (X.data.toList.take m) : Int) * 10 + ((X[m].toNat : Int) - 48) ≤ 9999999999999999 := by rw [HS.out] at hlt16'; unfold dv at hlt16'; omega
          have hbd0 : (val (X.data.toList.take m) : Int) ≤ 9999999999999999 := by omega
          clear hlt16 hlt16'
          generalize val (X.data.toList.take m) = E at *
          have hE0 : (0 : Int) ≤ E := by omega
          go_wp2
          go_round
          case rel => exact ⟨m + 1, by omega, by omega, by go_num, by rw [HS.out]; unfold dv; go_num⟩
          case measure => simp [intOf]; omega
        · have hfull := take_all X m hmlt
          rw [hfull] at hlt16 ⊢
          have hbd0 : (val X.data.toList : Int) ≤ 9999999999999999 := by omega
          clear hlt16
          have HEV := hide (expV_eq X.data.toList)
          have HEB := hide (expB_eq X.data.toList)
          generalize val X.data.toList = E at *
          by_cases hbig : (1125899906842624 : Int) ≤ E
          · have HV1 := hide (HEV.out.trans (if_neg (by omega)))
            have HB1 := hide (HEB.out.trans (decide_eq_true (by omega)))
            go_wp2
            go_ret2
            exact ⟨by rw [HV1.out, HB1.out]; rfl, rfl⟩
          · have hE0 : (0 : Int) ≤ E := by omega
            have HV1 := hide (HEV.out.trans (if_pos (by omega)))
            have HB1 := hide (HEB.out.trans (decide_eq_false (by omega)))
            go_wp2
            go_ret2
            exact ⟨by rw [HV1.out, HB1.out]; rfl, rfl⟩

end Go.Proofs.Qxb6602829aDoor
