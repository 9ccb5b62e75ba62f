/-
  Walks of Append's helpers.
-/
import Derived.Test.Qxb6601790aDoorAa
namespace Go.Proofs.Qxb6601790aDoor
open Go.RowKit Num
open Go.Lib (decDigits)

set_option maxHeartbeats 1000000 in
set_option maxRecDepth 100000 in
theorem numDigits_any (n : Nm) (w : World) (h : n.ip.length + n.fp.length ≤ 4194304) : Calls Tryd.prog 31 #[nmV n] w fun e w' => e = .returned (.int .i64 ((n.ip ++ n.fp).length : Nat)) ∧ Below w.heap.size w w' := by
  obtain ⟨n1, n2, n3, n4, n5⟩ := n
  have h : n2.length + n3.length ≤ 4194304 := h
  have s2 := size_mk n2
  have s3 := size_mk n3
  unfold nmV
  go_enter Tryd.func31, Tryd.ntmps31
  go_wp2
  go_ret
  exact ⟨ret_int (by go_num), (Below.refl _ _).alloc (Nat.le_refl _) _⟩

theorem ret_u8 {a b : UInt8} (h : a = b) : Ending.returned (.int .u8 (a.toNat : Int)) = .returned (.int .u8 (b.toNat : Int)) := by rw [h]
theorem get_mk (l : List UInt8) (i : Nat) (_ : i < (⟨l.toArray⟩ : ByteArray).size) (h' : i < l.length) : (⟨l.toArray⟩ : ByteArray)[i] = l[i] := by
  show l.toArray[i] = l[i]
  simp

set_option maxHeartbeats 1000000 in
set_option maxRecDepth 100000 in
theorem digit_any (n : Nm) (i : Nat) (w : World) (hn : n.ip.length + n.fp.length ≤ 4194304) (hi : i < (n.ip ++ n.fp).length) : Calls Tryd.prog 44 #[nmV n, .int .i64 (i : Int)] w fun e w' => e = .returned (.int .u8 ((n.ip ++ n.fp)[i].toNat : Int)) ∧ Below w.heap.size w w' := by
  obtain ⟨n1, n2, n3, n4, n5⟩ := n
  have h : n2.length + n3.length ≤ 4194304 := hn
  have hi' : i < n2.length + n3.length := by rw [← List.length_append]; exact hi
  have s2 := size_mk n2
  have s3 := size_mk n3
  unfold nmV
  by_cases h1 : i < n2.length
  · have hi2 : i < (⟨n2.toArray⟩ : ByteArray).size := by omega
    have HF := hide (show (⟨n2.toArray⟩ : ByteArray)[i] = n2[i] by rw [get_mk n2 i hi2 h1])
    go_enter Tryd.func44, Tryd.ntmps44
    go_wp2
    go_ret
    exact ⟨ret_u8 HF.out, (Below.refl _ _).alloc (Nat.le_refl _) _⟩
  · have hi2 : i - n2.length < (⟨n3.toArray⟩ : ByteArray).size := by omega
    have HF := hide (show (⟨n3.toArray⟩ : ByteArray)[i - n2.length] = (n2 ++ n3)[i] by rw [get_mk n3 _ hi2 (by omega), List.getElem_append_right (by omega)])
    go_enter Tryd.func44, Tryd.ntmps44
    go_wp2
    go_ret
    exact ⟨ret_u8 HF.out, (Below.refl _ _).alloc (Nat.le_refl _) _⟩

theorem rep_snoc (k : Nat) : List.replicate (k + 1) (48 : UInt8) = List.replicate k 48 ++ [48] := List.replicate_succ'
set_option maxHeartbeats 1000000 in
set_option maxRecDepth 100000 in
theorem appendZeros_any (v : Value) (xs : List UInt8) (c B : Nat) (w : World) (hsrc : Src w B v xs) (hB : B ≤ w.heap.size) (hl : xs.length ≤ 8388608) (hc : c ≤ 64) :
    Calls Tryd.prog 34 #[v, .int .i64 (c : Int)] w (App w B (xs ++ List.replicate c 48)) := by
  go_enter Tryd.func34, Tryd.ntmps34
  go_wp2
  go_loopw [0, 6] (fun d i wr => ∃ k : Nat, k ≤ c ∧ i = .int .i64 (k : Int) ∧ Src wr B d (xs ++ List.replicate k 48) ∧ Kp B w wr) (fun _ i _ => c - (intOf i).toNat)
  case atStart => exact ⟨0, Nat.zero_le _, rfl, by simpa using hsrc, Kp.refl _ _⟩
  case round =>
    rename_i d0 i0 
    obtain ⟨k, hk, rfl, hs, hkp⟩ := hrel
    have HS := hide hs
    have HK := hide hkp
    clear hs hkp
    by_cases h1 : k < c
    · go_wp2_with (at_builtin; refine wpList_put1 _ rfl _ _ rfl B _ _ rfl HS.out (Nat.le_trans hB HK.out.size) 48 48 rfl _ (by simp) rfl (by simp; omega) ?_)
      intro v1 w1 ho1 hk1
      rw [← rep_snoc] at ho1
      have HO := hide ho1
      have HK1 := hide (HK.out.trans hk1)
      clear ho1 hk1
      go_wp2
      exact ⟨⟨k + 1, by omega, by go_num, .inl HO.out, HK1.out⟩, by simp [intOf]; omega⟩
    · obtain rfl : k = c := by omega
      go_wp2
      go_ret
      exact ⟨_, rfl, HS.out, HK.out⟩

theorem take_next {d : List UInt8} {a k : Nat} (ha : a ≤ k) (hk : k < d.length) : (d.take (k + 1)).drop a = (d.take k).drop a ++ [d[k]] := by
  rw [List.take_succ_eq_append_getElem hk, List.drop_append_of_le_length (by rw [List.length_take]; omega)]
set_option maxHeartbeats 1000000 in
set_option maxRecDepth 100000 in
theorem appendDigits_any (n : Nm) (v : Value) (xs : List UInt8) (p q B : Nat) (w : World) (hsrc : Src w B v xs) (hB : B ≤ w.heap.size) (hl : xs.length ≤ 8388608) (hn : n.ip.length + n.fp.length ≤ 4194304) (hpq : p ≤ q) (hq : q ≤ (n.ip ++ n.fp).length) :
    Calls Tryd.prog 32 #[nmV n, v, .int .i64 (p : Int), .int .i64 (q : Int)] w (App w B (xs ++ ((n.ip ++ n.fp).take q).drop p)) := by
  have H44 := hide (fun i wx hi => digit_any n i wx hn hi)
  have hn' : (n.ip ++ n.fp).length ≤ 4194304 := by rw [List.length_append]; exact hn
  have HW := hide ((Kp.refl B w).alloc hB (nmObj n))
  have HBX := hide (box_new w n)
  have HS0 := hide (hsrc.alloc (nmObj n))
  generalize n.ip ++ n.fp = d at *
  unfold nmV at *
  go_enter Tryd.func32, Tryd.ntmps32
  go_wp2
  go_loopw [1, 9] (fun u i wr => ∃ k : Nat, p ≤ k ∧ k ≤ q ∧ i = .int .i64 (k : Int) ∧ Src wr B u (xs ++ (d.take k).drop p) ∧ Kp B w wr ∧ wr.heap[w.heap.size]? = some (nmObj n)) (fun _ i _ => q - (intOf i).toNat)
  case atStart =>
    refine ⟨p, Nat.le_refl _, hpq, rfl, ?_, HW.out, HBX.out⟩
    rw [List.drop_eq_nil_of_le (by rw [List.length_take]; omega), List.append_nil]
    exact HS0.out
  case round =>
    obtain ⟨k, hpk, hkq, rfl, hs, hkp, hbx⟩ := hrel
    obtain ⟨c0, c1, c2, c3, c4⟩ := box_cells hbx
    have HS := hide hs
    have HK := hide hkp
    have HX := hide hbx
    clear hs hkp hbx
    by_cases h1 : k < q
    · have H := hide (fun wx => H44.out k wx (by omega))
      go_wp2_with fail
      refine (H.out _).mono ?_
      rintro e w1 ⟨rfl, hb1⟩
      have HS1 := hide (HS.out.below hb1)
      have HK1 := hide (HK.out.trans (Kp.of hb1 (Nat.le_trans hB HK.out.size)))
      have HX1 := hide (box_kept HX.out (Kp.of (B := 0) hb1 (Nat.zero_le _)))
      clear hb1 c0 c1 c2 c3 c4
      go_wp2_with (at_builtin; refine wpList_put1 _ rfl _ _ rfl B _ _ rfl HS1.out (Nat.le_trans hB HK1.out.size) d[k] _ rfl _ (by simp) rfl (by simp; omega) ?_)
      intro v2 w2 ho2 hk2
      rw [← take_next hpk (by omega)] at ho2
      have HO := hide ho2
      have HK2 := hide (HK1.out.trans hk2)
      have HX2 := hide (box_kept HX1.out hk2)
      clear ho2 hk2
      go_wp2
      exact ⟨⟨k + 1, by omega, by omega, by go_num, .inl HO.out, HK2.out, HX2.out⟩, by simp [intOf]; omega⟩
    · obtain rfl : k = q := by omega
      go_wp2
      go_ret
      exact ⟨_, rfl, HS.out, HK.out⟩

end Go.Proofs.Qxb6601790aDoor
