/-
  The walk of addToMagnitude: no carry; a carry; a borrow.
-/
import Derived.Test.Qxb6601790aDoorMag
import Derived.Deep.DeepFit
import Derived.WalkSpells
import Derived.Lib.Strings
namespace Go.Proofs.Qxb6601790aDoor
open Go.RowKit Num
open Go.Lib (decDigits)

theorem head_data (m : ByteArray) (k : Nat) : (m.extract 0 k).data.toList = m.data.toList.take k := by rw [Lib.extract_data]; simp
theorem tail_data (m : ByteArray) (k : Nat) : (m.extract k m.size).data.toList = m.data.toList.drop k := by rw [Lib.extract_data, List.take_of_length_le (by simp)]
theorem itoa_nonneg {n : Int} (h : 0 ≤ n) : Lib.itoa n = decDigits n.toNat := by unfold Lib.itoa; rw [if_neg (by omega)]
theorem itoa_low {n : Int} (h : 0 ≤ n) (h1 : n < 1000000000000000000) : (Lib.itoa n).length ≤ 18 := by
  rw [itoa_nonneg h]; exact decDigits_len_le _ 18 (by rw [pow18]; omega) (by decide)

/-- What is handed back: the digits ahead, the zeros between, the last digits. -/
theorem mag_fin {H T Pd : List UInt8} {lw : Int} {R : Int} (hH : allD H = true) (h0 : 0 ≤ lw) (h1 : lw < 1000000000000000000) (hT : Lib.itoa lw = T) (hP : List.replicate (18 - T.length) 48 = Pd) (hv : (val H : Int) * 1000000000000000000 + lw = R) (hR : 0 < R) :
    List.dropWhile (fun x => x == 48) (H ++ (Pd ++ T)) = decDigits R.toNat := by
  rw [itoa_nonneg h0] at hT
  rw [← List.append_assoc, ← hP, ← hT, whole_val hH (by omega) (by omega)]
  congr 1
  omega

theorem val_split (m : ByteArray) (h : 18 ≤ m.size) : val m.data.toList = val (m.data.toList.take (m.size - 18)) * 1000000000000000000 + val (m.extract (m.size - 18) m.size).data.toList := by
  rw [tail_data]
  conv => lhs; rw [← List.take_append_drop (m.size - 18) m.data.toList, val_append]
  rw [List.length_drop, len_data, show m.size - (m.size - 18) = 18 by omega, pow18]
theorem low_lt (m : ByteArray) (h : 18 ≤ m.size) (ha : allD m.data.toList = true) : val (m.extract (m.size - 18) m.size).data.toList < 1000000000000000000 := by
  rw [tail_data]
  exact val_le_18 (allD_drop ha _) (by rw [List.length_drop, len_data]; omega)

set_option maxHeartbeats 1000000 in
set_option maxRecDepth 100000 in
theorem mag_plain (nm : String) (h38 : Said38 nm) (h39 : Said39) (h40 : Said40) (m : ByteArray) (d : Int) (w : World) (htab : Tab nm w) (hm0 : 19 ≤ m.size) (hm : m.size ≤ 4194304) (ha : allD m.data.toList = true)
    (hd0 : -1000000000000000000 < d) (hd1 : d < 1000000000000000000) (hv18 : 1000000000000000000 ≤ val m.data.toList) (lo : Nat) (hlo : val (m.extract (m.size - 18) m.size).data.toList = lo)
    (hl0 : 0 ≤ (lo : Int) + d) (hl1 : (lo : Int) + d < 1000000000000000000) :
    Calls Tryd.prog 29 #[.string m, .int .i64 d] w fun e w' => e = .returned (.string ⟨(decDigits (val m.data.toList + d).toNat).toArray⟩) ∧ Below w.heap.size w w' := by
  have hlo1 := low_lt m (by omega) ha
  have hvs := val_split m (by omega)
  rw [hlo] at hlo1 hvs
  have HA := hide ha
  have HL := hide hlo
  have HV := hide hvs
  have HV18 := hide hv18
  clear ha hlo hvs hv18
  have hconv := fun (w : World) (s : ByteArray) => Lib.run_convert_string_bytes (P := Tryd.prog) w 9 33 5 s Tryd.underlying9 Tryd.underlying33 Tryd.underlying5
  go_enter Tryd.func29, Tryd.ntmps29
  go_wp2_with fail
  refine (digitsValue_any _ _ (by simp; omega) (by rw [tail_data]; exact allD_drop HA.out _)).mono ?_
  rintro e w1 ⟨rfl, rfl⟩
  rw [HL.out]
  have hb1 := bytesWorld_below w 5 (m.extract 0 (m.size - 18))
  have hr1 := bytesWorld_row w 5 (m.extract 0 (m.size - 18))
  have hz1 : w.heap.size < (Lib.bytesWorld w 5 (m.extract 0 (m.size - 18))).heap.size := by rw [Lib.bytesWorld_size]; omega
  rw [head_data] at hr1
  have hHa : allD (m.data.toList.take (m.size - 18)) = true := allD_take HA.out _
  have hHl : (m.data.toList.take (m.size - 18)).length = m.size - 18 := by rw [List.length_take, len_data]; omega
  generalize Lib.bytesWorld w 5 (m.extract 0 (m.size - 18)) = w1 at *
  generalize m.data.toList.take (m.size - 18) = H at *
  have HB0 := hide hb1
  have HR0 := hide hr1
  have HHa0 := hide hHa
  have hsz0 := hz1
  clear hb1 hr1 hHa hz1
  go_wp2_with fail
  refine (h38 _ _ (by omega) (by omega) (htab.below HB0.out)).mono ?_
  rintro e w2 ⟨rfl, hb2⟩
  have hTl := itoa_low hl0 hl1
  generalize hT : Lib.itoa (lo + d) = T at *
  have HT := hide hT
  have HB2 := hide hb2
  clear hT hb2
  go_wp2_with fail
  refine (h39 _ _ (by omega) (by omega)).mono ?_
  rintro e w3 ⟨rfl, hb3⟩
  have hR3 := (HR0.out.below HB2.out hsz0).below hb3 (Nat.lt_of_lt_of_le hsz0 HB2.out.size)
  have hst := hR3.toStr (P := Tryd.prog) 33 5 9 Tryd.underlying33 Tryd.underlying5 Tryd.underlying9 0 (m.size - 18) (grownCap w (m.size - 18) 0 5) (by omega)
  rw [List.drop_zero, List.take_of_length_le (by omega)] at hst
  have eP : (18 - (T.length : Int)).toNat = 18 - T.length := by omega
  rw [eP]
  have hPl : (List.replicate (18 - T.length) (48 : UInt8)).length ≤ 18 := by simp
  generalize hP : List.replicate (18 - T.length) (48 : UInt8) = Pd at *
  have HP := hide hP
  have HB3 := hide hb3
  clear hR3 hb3 eP hP
  go_wp2_with fail
  refine (h40 _ _).mono ?_
  rintro e w4 ⟨rfl, rfl⟩
  go_wp2
  go_ret
  refine ⟨ret_str (mag_fin HHa0.out hl0 hl1 HT.out HP.out (by have := HV.out; omega) (by have := HV18.out; omega)), ?_⟩
  exact (HB0.out.trans (HB2.out.mono (by have := HB0.out.size; omega))).trans (HB3.out.mono (by have := HB0.out.size; have := HB2.out.size; omega))

set_option maxHeartbeats 1000000 in
set_option maxRecDepth 100000 in
theorem mag_carry (nm : String) (h38 : Said38 nm) (h39 : Said39) (h40 : Said40) (m : ByteArray) (d : Int) (w : World) (htab : Tab nm w) (hm0 : 19 ≤ m.size) (hm : m.size ≤ 4194304) (ha : allD m.data.toList = true)
    (hd0 : -1000000000000000000 < d) (hd1 : d < 1000000000000000000) (hv18 : 1000000000000000000 ≤ val m.data.toList) (lo : Nat) (hlo : val (m.extract (m.size - 18) m.size).data.toList = lo)
    (hc0 : 1000000000000000000 ≤ (lo : Int) + d) :
    Calls Tryd.prog 29 #[.string m, .int .i64 d] w fun e w' => e = .returned (.string ⟨(decDigits (val m.data.toList + d).toNat).toArray⟩) ∧ Below w.heap.size w w' := by
  have hlo1 := low_lt m (by omega) ha
  have hvs := val_split m (by omega)
  rw [hlo] at hlo1 hvs
  have HA := hide ha
  have HL := hide hlo
  have HV := hide hvs
  have HV18 := hide hv18
  clear ha hlo hvs hv18
  have hconv := fun (w : World) (s : ByteArray) => Lib.run_convert_string_bytes (P := Tryd.prog) w 9 33 5 s Tryd.underlying9 Tryd.underlying33 Tryd.underlying5
  go_enter Tryd.func29, Tryd.ntmps29
  go_wp2_with fail
  refine (digitsValue_any _ _ (by simp; omega) (by rw [tail_data]; exact allD_drop HA.out _)).mono ?_
  rintro e w1 ⟨rfl, rfl⟩
  rw [HL.out]
  have hb1 := bytesWorld_below w 5 (m.extract 0 (m.size - 18))
  have hr1 := bytesWorld_row w 5 (m.extract 0 (m.size - 18))
  have hz1 : w.heap.size < (Lib.bytesWorld w 5 (m.extract 0 (m.size - 18))).heap.size := by rw [Lib.bytesWorld_size]; omega
  rw [head_data] at hr1
  have hHa : allD (m.data.toList.take (m.size - 18)) = true := allD_take HA.out _
  have hHl : (m.data.toList.take (m.size - 18)).length = m.size - 18 := by rw [List.length_take, len_data]; omega
  generalize Lib.bytesWorld w 5 (m.extract 0 (m.size - 18)) = w1 at *
  generalize m.data.toList.take (m.size - 18) = H at *
  have hl0 : 0 ≤ (lo : Int) + d - 1000000000000000000 := by omega
  have hl1 : (lo : Int) + d - 1000000000000000000 < 1000000000000000000 := by omega
  have HB1 := hide hb1
  have HR1 := hide hr1
  have HHa := hide hHa
  clear hb1 hr1 hHa
  obtain ⟨i0, hi0, hi1, hi2, hi3⟩ := info_parts info5
  go_wp2_with fail
  go_loopw [8] (fun i wr => ∃ q : Nat, q ≤ m.size - 18 ∧ i = .int .i64 ((q : Int) - 1) ∧ H.drop q = List.replicate (H.length - q) 57 ∧ Row wr w.heap.size (H.take q ++ List.replicate (H.length - q) 48) ∧ Below w.heap.size w wr ∧ w.heap.size < wr.heap.size)
    (fun i _ => (intOf i + 1).toNat)
  case atStart =>
    refine ⟨m.size - 18, Nat.le_refl _, by go_num, ?_, ?_, HB1.out, hz1⟩
    · rw [hHl, Nat.sub_self, ← hHl, List.drop_length]; rfl
    · rw [hHl, Nat.sub_self, ← hHl, List.take_length]; simpa using HR1.out
  case round =>
    obtain ⟨q, hq, rfl, htl, hrow, hbel, hsz⟩ := hrel
    cases q with
    | zero =>
      have hrow0 : Row (wr.alloc (.cells #[.int .u8 49] 5)) w.heap.size (List.replicate (m.size - 18) 48) := by
        rw [hHl] at hrow
        simpa using hrow.alloc hsz _
      have hown : (wr.alloc (.cells #[.int .u8 49] 5)).ownsRow (w.heap.size + 1) 5 1 (.slice (some ⟨wr.heap.size, 0, none⟩) 1 1) 1 [.int .u8 49] := World.ownsRow_lit wr _ 1 (by omega) (by decide) rfl
      have hnl : (bv (List.replicate (m.size - 18) 48)).length = (m.size - 18) * 1 := by rw [bv_length, List.length_replicate, Nat.mul_one]
      have hIV := inc_all htl
      rw [hHl] at hIV
      have HIV := hide hIV
      have HBEL := hide hbel
      clear htl hrow hbel hIV
      go_wp2_with (at_builtin; refine wpList_append_own _ rfl (.tmp 49) (.tmp 50) 33 rfl (w.heap.size + 1) 5 i0 (.int .u8 0) 1 1 Tryd.underlying33 hi0 hi1 hi2 hi3 rfl (by decide) _ 1 [.int .u8 49] rfl hown ⟨w.heap.size, 0, none⟩ (m.size - 18) _ (bv (List.replicate (m.size - 18) 48)) rfl hnl hrow0.news bv_one (by unfold maxLen; omega) (by omega) (by simp; omega) ?_)
      intro v' w0 hown' hgrow _
      obtain ⟨g, cap, hv, hg0, hsz0, hrow', hl'⟩ := row_of_owns (xs := 49 :: List.replicate (m.size - 18) 48) hown' (by omega)
      rw [hv]
      have HB0 := hide ((HBEL.out.alloc (Nat.le_of_lt hsz) (.cells #[.int .u8 49] 5)).grown hgrow (by simp; omega) (by intro k hk; simp [Value.ownBlock] at hk; omega))
      clear hown' hgrow hv hown hrow0 hnl
      generalize 49 :: List.replicate (m.size - 18) 48 = HH at *
      have HR0 := hide hrow'
      have HHa0 := hide HIV.out.1
      clear hrow'
      go_wp2_with fail
      refine (h38 _ _ (by omega) (by omega) (htab.below HB0.out)).mono ?_
      rintro e w2 ⟨rfl, hb2⟩
      have hTl := itoa_low hl0 hl1
      generalize hT : Lib.itoa (lo + d - 1000000000000000000) = T at *
      have HT := hide hT
      have HB2 := hide hb2
      clear hT hb2
      go_wp2_with fail
      refine (h39 _ _ (by omega) (by omega)).mono ?_
      rintro e w3 ⟨rfl, hb3⟩
      have hR3 := (HR0.out.below HB2.out hsz0).below hb3 (Nat.lt_of_lt_of_le hsz0 HB2.out.size)
      have hst := hR3.toStr (P := Tryd.prog) 33 5 9 Tryd.underlying33 Tryd.underlying5 Tryd.underlying9 0 (1 + (m.size - 18)) (cap) (by omega)
      rw [List.drop_zero, List.take_of_length_le (by omega)] at hst
      have eP : (18 - (T.length : Int)).toNat = 18 - T.length := by omega
      rw [eP]
      have hPl : (List.replicate (18 - T.length) (48 : UInt8)).length ≤ 18 := by simp
      generalize hP : List.replicate (18 - T.length) (48 : UInt8) = Pd at *
      have HP := hide hP
      have HB3 := hide hb3
      clear hR3 hb3 eP hP
      go_wp2_with fail
      refine (h40 _ _).mono ?_
      rintro e w4 ⟨rfl, rfl⟩
      go_wp2
      go_ret
      refine ⟨ret_str (mag_fin HHa0.out hl0 hl1 HT.out HP.out (by have := HV.out; have := HIV.out.2; omega) (by have := HV18.out; omega)), ?_⟩
      exact (HB0.out.trans (HB2.out.mono (by have := HB0.out.size; omega))).trans (HB3.out.mono (by have := HB0.out.size; have := HB2.out.size; omega))
    | succ r =>
      have hrH : r < H.length := by omega
      have hrX : r < (H.take (r + 1) ++ List.replicate (H.length - (r + 1)) 48).length := by simp; omega
      have hcl := hrow.cell r hrX
      have hfr := hrow.free r hrX
      rw [at_put hrH] at hcl
      have hdg := (isDig_iff _).1 (allD_mem HHa.out (List.getElem_mem hrH))
      obtain ⟨hdg1, hdg2⟩ := hdg
      have HTL := hide htl
      have HROW := hide hrow
      have HBEL := hide hbel
      clear htl hrow hbel
      by_cases h9 : H[r] = 57
      · have h3 : ((H[r].toNat : Int) == 57) = true := by rw [h9]; rfl
        go_wp2
        have R := HROW.out.store r hrX 48 48 rfl
        rw [put_step hrH, put_same hrH] at R
        exact ⟨⟨r, by omega, rfl, tail_step hrH HTL.out h9, R, HBEL.out.setCell (Nat.le_refl _) _, by simpa using hsz⟩, by simp [intOf]⟩
      · have h9' : H[r].toNat ≠ 57 := fun e => h9 (UInt8.toNat_inj.1 e)
        have h3 : ((H[r].toNat : Int) == 57) = false := by rw [beq_eq_false_iff_ne]; omega
        have hIV := inc_val hrH HHa.out HTL.out h9
        have R := HROW.out.store r hrX (UInt8.ofNat (H[r].toNat + 1)) ((H[r].toNat : Int) + 1) (by rw [toNat_ofNat (by omega)]; omega)
        rw [put_step hrH] at R
        have hHHl : (H.take r ++ UInt8.ofNat (H[r].toNat + 1) :: List.replicate (H.length - (r + 1)) 48).length = m.size - 18 := by simp; omega
        generalize H.take r ++ UInt8.ofNat (H[r].toNat + 1) :: List.replicate (H.length - (r + 1)) 48 = HH at *
        have hBEL := HBEL.out.setCell (p := ⟨w.heap.size, r, none⟩) (Nat.le_refl _) (.int .u8 ((H[r].toNat : Int) + 1))
        have hsz0 : w.heap.size < (wr.setCell ⟨w.heap.size, r, none⟩ (.int .u8 ((H[r].toNat : Int) + 1))).heap.size := by simpa using hsz
        have HIV := hide hIV
        have HHa0 := hide hIV.1
        have HR0 := hide R
        have HB0 := hide hBEL
        clear hIV R hBEL HTL HROW HBEL
        go_wp2_with fail
        generalize wr.setCell ⟨w.heap.size, r, none⟩ (.int .u8 ((H[r].toNat : Int) + 1)) = w0 at *
        refine (h38 _ _ (by omega) (by omega) (htab.below HB0.out)).mono ?_
        rintro e w2 ⟨rfl, hb2⟩
        have hTl := itoa_low hl0 hl1
        generalize hT : Lib.itoa (lo + d - 1000000000000000000) = T at *
        have HT := hide hT
        have HB2 := hide hb2
        clear hT hb2
        go_wp2_with fail
        refine (h39 _ _ (by omega) (by omega)).mono ?_
        rintro e w3 ⟨rfl, hb3⟩
        have hR3 := (HR0.out.below HB2.out hsz0).below hb3 (Nat.lt_of_lt_of_le hsz0 HB2.out.size)
        have hst := hR3.toStr (P := Tryd.prog) 33 5 9 Tryd.underlying33 Tryd.underlying5 Tryd.underlying9 0 (m.size - 18) (grownCap w (m.size - 18) 0 5) (by omega)
        rw [List.drop_zero, List.take_of_length_le (by omega)] at hst
        have eP : (18 - (T.length : Int)).toNat = 18 - T.length := by omega
        rw [eP]
        have hPl : (List.replicate (18 - T.length) (48 : UInt8)).length ≤ 18 := by simp
        generalize hP : List.replicate (18 - T.length) (48 : UInt8) = Pd at *
        have HP := hide hP
        have HB3 := hide hb3
        clear hR3 hb3 eP hP
        go_wp2_with fail
        refine (h40 _ _).mono ?_
        rintro e w4 ⟨rfl, rfl⟩
        go_wp2
        go_ret
        refine ⟨ret_str (mag_fin HHa0.out hl0 hl1 HT.out HP.out (by have := HV.out; have := HIV.out.2; omega) (by have := HV18.out; omega)), ?_⟩
        exact (HB0.out.trans (HB2.out.mono (by have := HB0.out.size; omega))).trans (HB3.out.mono (by have := HB0.out.size; have := HB2.out.size; omega))

set_option maxHeartbeats 1000000 in
set_option maxRecDepth 100000 in
theorem mag_borrow (nm : String) (h38 : Said38 nm) (h39 : Said39) (h40 : Said40) (m : ByteArray) (d : Int) (w : World) (htab : Tab nm w) (hm0 : 19 ≤ m.size) (hm : m.size ≤ 4194304) (ha : allD m.data.toList = true)
    (hd0 : -1000000000000000000 < d) (hd1 : d < 1000000000000000000) (hv18 : 1000000000000000000 ≤ val m.data.toList) (lo : Nat) (hlo : val (m.extract (m.size - 18) m.size).data.toList = lo)
    (hc0 : (lo : Int) + d < 0) :
    Calls Tryd.prog 29 #[.string m, .int .i64 d] w fun e w' => e = .returned (.string ⟨(decDigits (val m.data.toList + d).toNat).toArray⟩) ∧ Below w.heap.size w w' := by
  have hlo1 := low_lt m (by omega) ha
  have hvs := val_split m (by omega)
  rw [hlo] at hlo1 hvs
  have HA := hide ha
  have HL := hide hlo
  have HV := hide hvs
  have HV18 := hide hv18
  clear ha hlo hvs hv18
  have hconv := fun (w : World) (s : ByteArray) => Lib.run_convert_string_bytes (P := Tryd.prog) w 9 33 5 s Tryd.underlying9 Tryd.underlying33 Tryd.underlying5
  go_enter Tryd.func29, Tryd.ntmps29
  go_wp2_with fail
  refine (digitsValue_any _ _ (by simp; omega) (by rw [tail_data]; exact allD_drop HA.out _)).mono ?_
  rintro e w1 ⟨rfl, rfl⟩
  rw [HL.out]
  have hb1 := bytesWorld_below w 5 (m.extract 0 (m.size - 18))
  have hr1 := bytesWorld_row w 5 (m.extract 0 (m.size - 18))
  have hz1 : w.heap.size < (Lib.bytesWorld w 5 (m.extract 0 (m.size - 18))).heap.size := by rw [Lib.bytesWorld_size]; omega
  rw [head_data] at hr1
  have hHa : allD (m.data.toList.take (m.size - 18)) = true := allD_take HA.out _
  have hHl : (m.data.toList.take (m.size - 18)).length = m.size - 18 := by rw [List.length_take, len_data]; omega
  generalize Lib.bytesWorld w 5 (m.extract 0 (m.size - 18)) = w1 at *
  generalize m.data.toList.take (m.size - 18) = H at *
  have hl0 : 0 ≤ (lo : Int) + d + 1000000000000000000 := by omega
  have hl1 : (lo : Int) + d + 1000000000000000000 < 1000000000000000000 := by omega
  have HB1 := hide hb1
  have HR1 := hide hr1
  have HHa := hide hHa
  clear hb1 hr1 hHa
  obtain ⟨i0, hi0, hi1, hi2, hi3⟩ := info_parts info5
  go_wp2_with fail
  go_loopw [9] (fun i wr => ∃ q : Nat, q ≤ m.size - 18 ∧ i = .int .i64 ((q : Int) - 1) ∧ H.drop q = List.replicate (H.length - q) 48 ∧ Row wr w.heap.size (H.take q ++ List.replicate (H.length - q) 57) ∧ Below w.heap.size w wr ∧ w.heap.size < wr.heap.size)
    (fun i _ => (intOf i + 1).toNat)
  case atStart =>
    refine ⟨m.size - 18, Nat.le_refl _, by go_num, ?_, ?_, HB1.out, hz1⟩
    · rw [hHl, Nat.sub_self, ← hHl, List.drop_length]; rfl
    · rw [hHl, Nat.sub_self, ← hHl, List.take_length]; simpa using HR1.out
  case round =>
    obtain ⟨q, hq, rfl, htl, hrow, hbel, hsz⟩ := hrel
    cases q with
    | zero =>
      exfalso
      have hv0 : val H = 0 := by rw [List.drop_zero] at htl; rw [htl, val_zeros]
      have := HV.out
      have := HV18.out
      omega
    | succ r =>
      have hrH : r < H.length := by omega
      have hrX : r < (H.take (r + 1) ++ List.replicate (H.length - (r + 1)) 57).length := by simp; omega
      have hcl := hrow.cell r hrX
      have hfr := hrow.free r hrX
      rw [at_put hrH] at hcl
      have hdg := (isDig_iff _).1 (allD_mem HHa.out (List.getElem_mem hrH))
      obtain ⟨hdg1, hdg2⟩ := hdg
      have HTL := hide htl
      have HROW := hide hrow
      have HBEL := hide hbel
      clear htl hrow hbel
      by_cases h9 : H[r] = 48
      · have h3 : ((H[r].toNat : Int) == 48) = true := by rw [h9]; rfl
        go_wp2
        have R := HROW.out.store r hrX 57 57 rfl
        rw [put_step hrH, put_same hrH] at R
        exact ⟨⟨r, by omega, rfl, tail_step hrH HTL.out h9, R, HBEL.out.setCell (Nat.le_refl _) _, by simpa using hsz⟩, by simp [intOf]⟩
      · have h9' : H[r].toNat ≠ 48 := fun e => h9 (UInt8.toNat_inj.1 e)
        have h3 : ((H[r].toNat : Int) == 48) = false := by rw [beq_eq_false_iff_ne]; omega
        have hIV := dec_val hrH HHa.out HTL.out h9
        have R := HROW.out.store r hrX (UInt8.ofNat (H[r].toNat - 1)) ((H[r].toNat : Int) - 1) (by rw [toNat_ofNat (by omega)]; omega)
        rw [put_step hrH] at R
        have hHHl : (H.take r ++ UInt8.ofNat (H[r].toNat - 1) :: List.replicate (H.length - (r + 1)) 57).length = m.size - 18 := by simp; omega
        generalize H.take r ++ UInt8.ofNat (H[r].toNat - 1) :: List.replicate (H.length - (r + 1)) 57 = HH at *
        have hBEL := HBEL.out.setCell (p := ⟨w.heap.size, r, none⟩) (Nat.le_refl _) (.int .u8 ((H[r].toNat : Int) - 1))
        have hsz0 : w.heap.size < (wr.setCell ⟨w.heap.size, r, none⟩ (.int .u8 ((H[r].toNat : Int) - 1))).heap.size := by simpa using hsz
        have HIV := hide hIV
        have HHa0 := hide hIV.1
        have HR0 := hide R
        have HB0 := hide hBEL
        clear hIV R hBEL HTL HROW HBEL
        go_wp2_with fail
        generalize wr.setCell ⟨w.heap.size, r, none⟩ (.int .u8 ((H[r].toNat : Int) - 1)) = w0 at *
        refine (h38 _ _ (by omega) (by omega) (htab.below HB0.out)).mono ?_
        rintro e w2 ⟨rfl, hb2⟩
        have hTl := itoa_low hl0 hl1
        generalize hT : Lib.itoa (lo + d + 1000000000000000000) = T at *
        have HT := hide hT
        have HB2 := hide hb2
        clear hT hb2
        go_wp2_with fail
        refine (h39 _ _ (by omega) (by omega)).mono ?_
        rintro e w3 ⟨rfl, hb3⟩
        have hR3 := (HR0.out.below HB2.out hsz0).below hb3 (Nat.lt_of_lt_of_le hsz0 HB2.out.size)
        have hst := hR3.toStr (P := Tryd.prog) 33 5 9 Tryd.underlying33 Tryd.underlying5 Tryd.underlying9 0 (m.size - 18) (grownCap w (m.size - 18) 0 5) (by omega)
        rw [List.drop_zero, List.take_of_length_le (by omega)] at hst
        have eP : (18 - (T.length : Int)).toNat = 18 - T.length := by omega
        rw [eP]
        have hPl : (List.replicate (18 - T.length) (48 : UInt8)).length ≤ 18 := by simp
        generalize hP : List.replicate (18 - T.length) (48 : UInt8) = Pd at *
        have HP := hide hP
        have HB3 := hide hb3
        clear hR3 hb3 eP hP
        go_wp2_with fail
        refine (h40 _ _).mono ?_
        rintro e w4 ⟨rfl, rfl⟩
        go_wp2
        go_ret
        refine ⟨ret_str (mag_fin HHa0.out hl0 hl1 HT.out HP.out (by have := HV.out; have := HIV.out.2; omega) (by have := HV18.out; omega)), ?_⟩
        exact (HB0.out.trans (HB2.out.mono (by have := HB0.out.size; omega))).trans (HB3.out.mono (by have := HB0.out.size; have := HB2.out.size; omega))

end Go.Proofs.Qxb6601790aDoor
