import Derived.Test.Qxb6601828aDoorWc
namespace Go.Proofs.Qxb6601828aDoor
open Go.RowKit

def wl : List UInt8 := [98, 101, 97, 114, 101, 114]
theorem low_fold (k : Nat) (hk : k < 6) (x : UInt8) : (low x = ((wl.getD k 0).toNat : Int)) ↔ Lib.foldEq x (Pl.bl.getD k 0) = true := by
  have : k = 0 ∨ k = 1 ∨ k = 2 ∨ k = 3 ∨ k = 4 ∨ k = 5 := by omega
  unfold low Lib.foldEq
  rw [decide_eq_true_iff]
  rcases this with rfl | rfl | rfl | rfl | rfl | rfl <;> simp [wl, Pl.bl] <;> split <;> omega
theorem getD_byte (v : ByteArray) (k : Nat) (h : k < v.size) : v.data.toList.getD k 0 = v[k] := by
  rw [List.getD, Lib.data_getElem? v k h]; rfl

theorem word_at (k : Nat) (h : k < (⟨#[98, 101, 97, 114, 101, 114]⟩ : ByteArray).size) : (⟨#[98, 101, 97, 114, 101, 114]⟩ : ByteArray)[k] = wl.getD k 0 := by
  have h' : k < 6 := h
  have : k = 0 ∨ k = 1 ∨ k = 2 ∨ k = 3 ∨ k = 4 ∨ k = 5 := by omega
  rcases this with rfl | rfl | rfl | rfl | rfl | rfl <;> rfl
theorem blanks_end {l : List UInt8} {j : Nat} (h7 : 7 ≤ j) (hl : j ≤ l.length) (hz : ∀ i, 7 ≤ i → i < j → l.getD i 0 = 32) (hs : j = l.length ∨ l.getD j 0 ≠ 32) : Lib.trimLeftB (l.drop 7) 32 = l.drop j := by
  rw [Lib.trimLeftB_drop (l.drop 7) 32 (j - 7) (by rw [List.length_drop]; omega) (fun i b hi hb => ?_) (fun b hb => ?_), List.drop_drop, show 7 + (j - 7) = j by omega]
  · rw [List.getElem?_drop] at hb
    have := hz (7 + i) (by omega) (by omega)
    rw [List.getD, hb] at this
    simpa using this
  · rw [List.getElem?_drop, show 7 + (j - 7) = j by omega] at hb
    rcases hs with hs | hs
    · rw [List.getElem?_eq_none (by omega)] at hb; cases hb
    · rw [List.getD, hb] at hs
      simpa using hs
theorem res_yes {l : List UInt8} (h : Pl.okB l = true) : Pl.res l = Lib.trimLeftB (l.drop 7) 32 := by unfold Pl.res; rw [h]; rfl
theorem res_no {l : List UInt8} (h : Pl.okB l = false) : Pl.res l = l := by unfold Pl.res; rw [h]; rfl
theorem tup_no {v : ByteArray} (h : Pl.okB v.data.toList = false) : Ending.returned (.tuple #[.string v, .bool false]) = .returned (.tuple #[.string ⟨(Pl.res v.data.toList).toArray⟩, .bool (Pl.okB v.data.toList)]) := by rw [res_no h, h, Lib.mk_data]

set_option maxHeartbeats 2000000 in
set_option maxRecDepth 100000 in
theorem cutModel_any (v : ByteArray) (w : World) (hv : v.size ≤ 1048576) :
    Calls Tryd.prog 7 #[.string v] w fun e w' => e = .returned (.tuple #[.string ⟨(Pl.res v.data.toList).toArray⟩, .bool (Pl.okB v.data.toList)]) ∧ Below w.heap.size w w' := by
  by_cases h7 : 7 ≤ v.size
  · by_cases h6 : v[6] = 32
    · have h6' : ((v[6].toNat : Int) != 32) = false := by rw [h6]; rfl
      have H6 := hide h6
      clear h6
      go_enter Tryd.func7, Tryd.ntmps7
      go_wp2
      go_loopw [4] (fun i wr => ∃ k : Nat, k ≤ 6 ∧ i = .int .i64 k ∧ (∀ j, j < k → Lib.foldEq (v.data.toList.getD j 0) (Pl.bl.getD j 0) = true) ∧ Below w.heap.size w wr) (fun i _ => 6 - (intOf i).toNat)
      case atStart => exact ⟨0, by omega, rfl, fun j hj => absurd hj (Nat.not_lt_zero _), Below.refl _ _⟩
      case round =>
        obtain ⟨k, hk, rfl, hall, hb⟩ := hrel
        have HALL := hide hall
        have HB := hide hb
        clear hall hb
        by_cases hk6 : k < 6
        · have hkv : k < v.size := by omega
          have hwk : k < (⟨#[98, 101, 97, 114, 101, 114]⟩ : ByteArray).size := hk6
          by_cases hx : low v[k] = ((wl.getD k 0).toNat : Int)
          · have hx' : (low v[k] != (((⟨#[98, 101, 97, 114, 101, 114]⟩ : ByteArray)[k]).toNat : Int)) = false := by rw [word_at k hwk, bne_eq_false_iff_eq]; exact hx
            have HX := hide hx
            clear hx
            go_wp2_with fail
            go_quiet ((go_at_call 12; exact Calls.quiet_of_same (lower_any _ _)))
            go_wp2_with fail
            go_roundw
            case rel =>
              refine ⟨k + 1, by omega, by go_num, fun j hj => ?_, below_drewN HB.out _⟩
              by_cases e : j = k
              · subst e; rw [getD_byte v j hkv]; exact (low_fold j hk6 _).1 HX.out
              · exact HALL.out j (by omega)
            case measure => simp [intOf]; omega
          · have hx' : (low v[k] != (((⟨#[98, 101, 97, 114, 101, 114]⟩ : ByteArray)[k]).toNat : Int)) = true := by rw [word_at k hwk, bne_iff_ne]; exact hx
            have hok : Pl.okB v.data.toList = false := Pl.okB_no hk6 (by rw [← Lib.size_eq]; exact h7) (by
              rw [getD_byte v k hkv]
              cases e : Lib.foldEq v[k] (Pl.bl.getD k 0) with
              | false => rfl
              | true => exact absurd ((low_fold k hk6 _).2 e) hx)
            have HOK := hide hok
            clear hx hok
            go_wp2_with fail
            go_quiet ((go_at_call 12; exact Calls.quiet_of_same (lower_any _ _)))
            go_wp2_with fail
            go_ret2
            exact ⟨tup_no HOK.out, below_drewN HB.out _⟩
        · obtain rfl : k = 6 := by omega
          have hok : Pl.okB v.data.toList = true := Pl.okB_yes (by rw [← Lib.size_eq]; exact h7) (by rw [getD_byte v 6 (by omega)]; exact H6.out) HALL.out
          have HOK := hide hok
          clear hok
          go_wp2_with fail
          go_loop [5] (fun i => ∃ j : Nat, 7 ≤ j ∧ j ≤ v.size ∧ i = .int .i64 j ∧ ∀ i, 7 ≤ i → i < j → v.data.toList.getD i 0 = 32) (fun i => v.size - (intOf i).toNat)
          case atStart => exact ⟨7, by omega, h7, rfl, fun i h1 h2 => by omega⟩
          case round =>
            obtain ⟨j, hj7, hjv, rfl, hz⟩ := hrel
            have HZ := hide hz
            clear hz
            by_cases hj : j < v.size
            · by_cases hjb : v[j] = 32
              · have hjb' : ((v[j].toNat : Int) == 32) = true := by rw [hjb]; rfl
                go_wp2_with fail
                go_round
                case rel =>
                  refine ⟨j + 1, by omega, by omega, by go_num, fun i h1 h2 => ?_⟩
                  by_cases e : i = j
                  · subst e; rw [getD_byte v i hj]; exact hjb
                  · exact HZ.out i h1 (by omega)
                case measure => simp [intOf]; omega
              · have hjb' : ((v[j].toNat : Int) == 32) = false := by
                  rw [beq_eq_false_iff_ne]; intro e; exact hjb (UInt8.toNat_inj.1 (by show v[j].toNat = 32; omega))
                go_wp2_with fail
                go_ret2
                refine ⟨?_, HB.out⟩
                have e1 := blanks_end hj7 (by rw [← Lib.size_eq]; exact hjv) HZ.out (.inr (by rw [getD_byte v j hj]; exact hjb))
                rw [HOK.out, res_yes HOK.out, e1, Lib.extract_from]
                rfl
            · obtain rfl : j = v.size := by omega
              go_wp2_with fail
              go_ret2
              refine ⟨?_, HB.out⟩
              have e1 := blanks_end hj7 (by rw [← Lib.size_eq]; exact hjv) HZ.out (.inl (Lib.size_eq v))
              rw [HOK.out, res_yes HOK.out, e1, List.drop_eq_nil_of_le (by rw [← Lib.size_eq]; exact Nat.le_refl _)]
              rfl
    · have h6' : ((v[6].toNat : Int) != 32) = true := by
        rw [bne_iff_ne]; intro e; exact h6 (UInt8.toNat_inj.1 (by show v[6].toNat = 32; omega))
      have HOK := hide (Pl.okB_six (l := v.data.toList) (by rw [getD_byte v 6 (by omega)]; exact h6))
      clear h6
      go_enter Tryd.func7, Tryd.ntmps7
      go_wp2
      go_ret2
      exact ⟨tup_no HOK.out, Below.refl _ _⟩
  · have HOK := hide (Pl.okB_short (l := v.data.toList) (by rw [← Lib.size_eq]; omega))
    go_enter Tryd.func7, Tryd.ntmps7
    go_wp2
    go_ret2
    exact ⟨tup_no HOK.out, Below.refl _ _⟩

set_option maxHeartbeats 1000000 in
set_option maxRecDepth 100000 in
/-- FnCutBearerMatchesPrefixModel returns true. -/
theorem law3 (v : ByteArray) (w : World) (hs : v.size ≤ maxLen) (hf : Folds w bearer) (h0 : 0 < w.heap.size) :
    Calls Tryd.prog 3 #[.string v] w fun e w' => e = .returned (.bool true) ∧ Below w.heap.size w w' := by
  unfold maxLen at hs
  by_cases h1 : v.size ≤ 1048576
  · have H6 := hide (cutBearer_any v w h1 hf h0)
    have H7 := hide (fun wx => cutModel_any v wx h1)
    clear hf
    generalize Pl.res v.data.toList = R at *
    generalize Pl.okB v.data.toList = B at *
    go_enter Tryd.func3, Tryd.ntmps3
    go_wp2_with (first | (go_at_call 6; refine H6.out.mono ?_; rintro e w1 ⟨rfl, hb1⟩) | (go_at_call 5; go_in))
    refine (H7.out _).mono ?_
    rintro e w2 ⟨rfl, hb2⟩
    have HB := hide (hb1.trans (hb2.mono hb1.size))
    clear hb1 hb2
    have hB : (B == B) = true := by simp
    go_wp2_with fail
    go_ret
    exact ⟨ret_bool (by simp), HB.out⟩
  · go_enter Tryd.func3, Tryd.ntmps3
    go_wp2
    go_ret
    exact ⟨rfl, Below.refl _ _⟩

end Go.Proofs.Qxb6601828aDoor
