/-
  The walk of zzMinusOne.
-/
import Derived.Test.Qxb6601790aDoorBb
import Derived.Deep.CutBlock
namespace Go.Proofs.Qxb6601790aDoor
open Go.RowKit Num
open Go.Lib (decDigits)

/-- The sign and the digits of a number less one, the digits in a row. -/
def Mo (w : World) (t : List UInt8) (e : Ending) (w' : World) : Prop := ∃ (sg : UInt8) (ys : List UInt8) (k cap : Nat), t = sg :: ys ∧ e = .returned (.tuple #[.int .u8 (sg.toNat : Int), .slice (some ⟨w.heap.size, k, none⟩) ys.length cap]) ∧ (∀ j u, (bv ys)[j]? = some u → w'.cell? ((⟨w.heap.size, k, none⟩ : Addr).add j) = some u) ∧ w.heap.size < w'.heap.size ∧ Below w.heap.size w w'
def st0 (ng : Bool) : Nat := if ng then 1 else 0
theorem sd_neg {l : List UInt8} (h : sd l = true) : l.drop (st0 (isNeg l)) = dropSign l := by
  cases l with
  | nil => exact absurd h (by decide)
  | cons c t =>
    rw [sd_cons] at h
    cases hc : (c == 45) with
    | true =>
      have hs : isSg c = true := by unfold isSg; rw [hc, Bool.or_true]
      have e : dropSign (c :: t) = t := by simp [dropSign, hs]
      have e2 : isNeg (c :: t) = true := hc
      rw [e, e2]
      rfl
    | false =>
      rw [hc, if_neg (by decide)] at h
      have e2 : isNeg (c :: t) = false := hc
      rw [(dropSign_all h).1, e2]
      rfl
theorem get_at {b : ByteArray} {D : List UInt8} {s j : Nat} (h : b.data.toList.drop s = D) (hj : j < D.length) (hb : s + j < b.size) : b[s + j] = D[j] := by
  subst h
  rw [List.getElem_drop]
  rfl
theorem bigOf_plain {l : List UInt8} (h : isNeg l = false) : bigOf l = (val (dropSign l) : Int) := by unfold bigOf; rw [h]; rfl
theorem bigOf_neg {l : List UInt8} (h : isNeg l = true) : bigOf l = -(val (dropSign l) : Int) := by unfold bigOf; rw [h]; rfl
theorem trim_pos {D : List UInt8} (ha : allD D = true) (h : trimL D ≠ []) : 1 ≤ val (trimL D) := by
  cases e : trimL D with
  | nil => exact absurd e h
  | cons c t =>
    have hd := trimL_allD ha
    rw [e] at hd
    have h1 := pos_of_head (l := t) (allD_mem hd (c := c) (by simp)) (trimL_head e)
    have : 0 < 10 ^ t.length := Nat.pow_pos (by decide)
    omega
theorem strip_stop {Y : List UInt8} {k : Nat} (ha : allD Y = true) (hk : k < Y.length) (hz : ∀ j, j < k → Y.getD j 0 = 48) (hs : Y[k] ≠ 48 ∨ k + 1 = Y.length) : Y.drop k = decDigits (val Y) := by
  refine strip_keep ha hk (fun j hj => ?_) hs
  have := hz j hj
  simpa [List.getD, List.getElem?_eq_getElem (show j < Y.length by omega)] using this

theorem row_48 (w : World) (n : Nat) : Row (w.alloc (.cells ((madeCells #[.int .u8 0] (n + 1)).setIfInBounds 0 (.int .u8 48)) 5)) w.heap.size (48 :: List.replicate n 0) := by
  refine ⟨fun j hj => ?_, fun j _ => by simp⟩
  rw [World.cell?_alloc_new]
  cases j with
  | zero => simp [madeCells]
  | succ j =>
    have hj' : j < n := by simpa using hj
    simp [madeCells, hj', Nat.mod_one]
/-- The text of the number less one. -/
theorem minus_text {l : List UInt8} (ha : allD (dropSign l) = true) : sgnText (bigOf l - 1) = if isNeg l || (trimL (dropSign l)).isEmpty then 45 :: decDigits (val (trimL (dropSign l)) + 1) else 43 :: decDigits (val (trimL (dropSign l)) - 1) := by
  have hv := val_trimL (dropSign l)
  cases hn : isNeg l with
  | true =>
    rw [bigOf_neg hn, Bool.true_or, if_pos rfl, hv]
    unfold sgnText
    rw [if_pos (by omega), show (-(val (dropSign l) : Int) - 1).natAbs = val (dropSign l) + 1 by omega]
  | false =>
    rw [bigOf_plain hn, Bool.false_or]
    cases he : (trimL (dropSign l)).isEmpty with
    | true =>
      rw [List.isEmpty_iff] at he
      rw [he] at hv
      have h0 : val (dropSign l) = 0 := hv.symm
      rw [if_pos rfl, he, h0]
      rfl
    | false =>
      have hne : trimL (dropSign l) ≠ [] := by simpa using he
      have hp := trim_pos ha hne
      rw [if_neg (by decide), hv]
      rw [hv] at hp
      unfold sgnText
      rw [if_neg (by omega), show ((val (dropSign l) : Int) - 1).natAbs = val (dropSign l) - 1 by omega]
theorem fst_step' {m : List UInt8} {j : Nat} (h : fst0 m = j + fst0 (m.drop j)) (hj : j < m.length) (he : m[j] = 48) : fst0 m = (j + 1) + fst0 (m.drop (j + 1)) := by
  rw [h, List.drop_eq_getElem_cons hj, he, fst0_cons_zero]
  omega
theorem fst_stop' {m : List UInt8} {j : Nat} (h : fst0 m = j + fst0 (m.drop j)) (hj : j < m.length) (he : m[j] ≠ 48) : fst0 m = j := by
  rw [h, List.drop_eq_getElem_cons hj, fst0_cons_ne he]
  rfl
theorem fst_over' {m : List UInt8} {j : Nat} (h : fst0 m = j + fst0 (m.drop j)) (hj : ¬ j < m.length) : fst0 m = j := by
  rw [h, List.drop_eq_nil_of_le (by omega)]
  rfl

set_option maxHeartbeats 2000000 in
set_option maxRecDepth 100000 in
theorem zzMinusOne_any (b : ByteArray) (w : World) (hs : b.size ≤ 4194304) (h : sd b.data.toList = true) : Calls Tryd.prog 36 #[.string b] w (Mo w (sgnText (bigOf b.data.toList - 1))) := by
  obtain ⟨hne, hDne, hDa⟩ := sd_facts h
  have hb0 : 0 < b.size := by
    have h1 := List.length_pos_iff.2 hne
    rw [len_data] at h1
    exact h1
  have hdr := sd_neg h
  have hng : ((b[0].toNat : Int) == 45) = isNeg b.data.toList := (beq_byte (c := b[0]) (d := 45) (z := 45) rfl).trans (isNeg_at b hb0).symm
  have HTX : Hid (sgnText (bigOf b.data.toList - 1) = if isNeg b.data.toList || (trimL (dropSign b.data.toList)).isEmpty then 45 :: decDigits (val (trimL (dropSign b.data.toList)) + 1) else 43 :: decDigits (val (trimL (dropSign b.data.toList)) - 1)) := hide (minus_text hDa)
  have hDl : (dropSign b.data.toList).length = b.size - st0 (isNeg b.data.toList) := by rw [← hdr, List.length_drop, len_data]
  have hst1 : st0 (isNeg b.data.toList) ≤ 1 := by unfold st0; split <;> omega
  have HG := hide (fun j hj hb => get_at (b := b) (j := j) hdr hj hb)
  have HEX : Hid (∀ k, b.data.toList.drop (st0 (isNeg b.data.toList) + k) = (dropSign b.data.toList).drop k) := hide (fun k => by rw [← hdr, List.drop_drop])
  generalize sgnText (bigOf b.data.toList - 1) = TX at *
  generalize dropSign b.data.toList = D at *
  generalize isNeg b.data.toList = ng at *
  have HDA := hide hDa
  clear hDa h hne hdr
  go_enter Tryd.func36, Tryd.ntmps36
  go_upto_if 18 with fail
  go_cut [5] from 15 (fun v wx => v = .int .i64 (st0 ng : Nat) ∧ w = wx)
  case first =>
    cases ng <;> (go_wp2; go_meet; case rel => exact ⟨rfl, rfl⟩)
  case rest =>
  obtain ⟨rfl, rfl⟩ := hcut
  generalize st0 ng = s0 at *
  go_upto_block 0 with fail
  go_cut [5] from 15 (fun v wx => v = .int .i64 ((s0 + fst0 D : Nat) : Int) ∧ w = wx)
  case first =>
    go_wp2_with fail
    go_loop [5] (fun v => ∃ j : Nat, j ≤ D.length ∧ v = .int .i64 ((s0 + j : Nat) : Int) ∧ Hid (fst0 D = j + fst0 (D.drop j))) (fun v => b.size - (intOf v).toNat)
    case atStart => exact ⟨0, Nat.zero_le _, rfl, by show fst0 D = 0 + fst0 (D.drop 0); simp⟩
    case round =>
      obtain ⟨j, hj, rfl, HF⟩ := hrel
      by_cases h1 : j < D.length
      · have hjb : s0 + j < b.size := by omega
        have hget := HG.out j h1 hjb
        by_cases h2 : D[j] = 48
        · have h3 : ((b[s0 + j].toNat : Int) == 48) = true := by rw [hget, h2]; rfl
          have HS := hide (fst_step' HF.out h1 h2)
          clear h2 hget
          go_wp2
          go_round
          case rel => exact ⟨j + 1, h1, by go_num, HS⟩
          case measure => simp [intOf]; omega
        · have h3 : ((b[s0 + j].toNat : Int) == 48) = false := by
            rw [hget, beq_eq_false_iff_ne]; intro e; exact h2 (UInt8.toNat_inj.1 (by show D[j].toNat = 48; omega))
          have HS := hide (fst_stop' HF.out h1 h2)
          clear h2 hget
          go_wp2
          go_meet
          case rel => exact ⟨by rw [HS.out]; go_num, rfl⟩
      · have HS := hide (fst_over' HF.out h1)
        have hjb : ¬ s0 + j < b.size := by omega
        go_wp2
        go_meet
        case rel => exact ⟨by rw [HS.out]; go_num, rfl⟩
  case rest =>
  obtain ⟨rfl, rfl⟩ := hcut
  have hf0 := fst0_le D
  have hMl := trimL_length D
  have hSd : (b.extract (s0 + fst0 D) b.size).data.toList = trimL D := by
    rw [ext_list, HEX.out, List.take_of_length_le (by rw [List.length_drop]; omega), trimL_eq_drop]
  have hSs : (b.extract (s0 + fst0 D) b.size).size = (trimL D).length := by rw [← len_data, hSd]
  have hMa := trimL_allD HDA.out
  have hMp := fun h => trim_pos HDA.out h
  have hMb : (trimL D).length ≤ 4194304 := by omega
  generalize fst0 D = f at *
  generalize trimL D = M at *
  have hSt : s0 + f ≤ b.size := by omega
  generalize hS : b.extract (s0 + f) b.size = S at *
  have HSD := hide hSd
  clear hSd
  have HSG : Hid (∀ k (h1 : k < M.length) (h2 : k < S.size), S[k] = M[k]) := hide (fun k h1 h2 => by
    have := get_at (b := S) (D := M) (s := 0) (j := k) (by rw [List.drop_zero]; exact HSD.out) h1 (by omega)
    simpa using this)
  have HMA := hide hMa
  have HMP := hide hMp
  clear hMa hMp HG HEX hDl hDne hMl hf0 hst1
  go_upto_region 8 with fail
  rw [hS]
  clear hS
  go_cut [40] from 34 (fun v wx => v = .bool (!(ng || M.isEmpty)) ∧ w = wx)
  case first =>
    cases ng with
    | true => go_wp2; go_meet; case rel => exact ⟨rfl, rfl⟩
    | false =>
      cases hM : M.isEmpty with
      | true =>
        have h0 : M.length = 0 := by rw [List.isEmpty_iff] at hM; rw [hM]; rfl
        have HME := hide hM
        clear hM
        go_wp2
        go_meet
        case rel => exact ⟨by rw [HME.out]; rfl, rfl⟩
      | false =>
        have h0 : 0 < M.length := List.length_pos_iff.2 (by simpa using hM)
        have HME := hide hM
        clear hM
        go_wp2
        go_meet
        case rel => exact ⟨by rw [HME.out]; rfl, rfl⟩
  case rest =>
  obtain ⟨rfl, rfl⟩ := hcut
  cases hcase : (ng || M.isEmpty) with
  | false =>
    rw [Bool.or_eq_false_iff] at hcase
    have hMne : M ≠ [] := by simpa using hcase.2
    have hTX := HTX.out
    rw [hcase.1, hcase.2] at hTX
    have HTX2 : Hid (TX = 43 :: decDigits (val M - 1)) := hide hTX
    have hM1 := HMP.out hMne
    have hMl0 : 0 < M.length := List.length_pos_iff.2 hMne
    have HNO : Hid (M = List.replicate (M.length - 0) 48 → False) := hide (fun e => by
      have h1 : val M = 0 := by rw [e, val_zeros]
      omega)
    have HM1 := hide hM1
    clear hTX hcase hMne HTX hM1
    have hmk := run_make_row' (P := Tryd.prog) 33 5 (.int .u8 0) 1 Tryd.underlying33 info5 rfl .i64 .i64 M.length (by omega) (by omega)
    go_upto_block 2 with fail
    go_cut [8] from 34 (fun _ wx => Row wx w.heap.size M ∧ Below w.heap.size w wx ∧ w.heap.size < wx.heap.size)
    case first =>
      go_wp2_with fail
      go_loopw [8] (fun i wr => ∃ k : Nat, k ≤ M.length ∧ i = .int .i64 (k : Int) ∧ Row wr w.heap.size (M.take k ++ List.replicate (M.length - k) 0) ∧ Below w.heap.size w wr ∧ w.heap.size < wr.heap.size) (fun i _ => M.length - (intOf i).toNat)
      case atStart => exact ⟨0, Nat.zero_le _, rfl, by simpa using row_made w M.length 5, (Below.refl _ _).alloc (Nat.le_refl _) _, by simp⟩
      case round =>
        obtain ⟨k, hk, rfl, hrow, hbel, hsz⟩ := hrel
        by_cases h1 : k < M.length
        · have hkS : k < S.size := by omega
          have hget := HSG.out k h1 hkS
          have hlen : (M.take k ++ List.replicate (M.length - k) 0).length = M.length := by simp; omega
          have hrk := hrow.cell k (by omega)
          have hfk := hrow.free k (by omega)
          have hnew := hrow.store k (by omega) M[k] (M[k].toNat : Int) rfl
          rw [clone_step h1] at hnew
          have HN := hide hnew
          have HB := hide (hbel.setCell (p := ⟨w.heap.size, k, none⟩) (Nat.le_refl _) (.int .u8 (M[k].toNat : Int)))
          clear hrow hbel hnew
          go_wp2
          exact ⟨⟨k + 1, h1, by go_num, HN.out, HB.out, by simpa [World.setCell] using hsz⟩, by simp [intOf]; omega⟩
        · obtain rfl : k = M.length := by omega
          rw [List.take_length, Nat.sub_self] at hrow
          have hrow' : Row wr w.heap.size M := by simpa using hrow
          have HR := hide hrow'
          have HB := hide hbel
          clear hrow hbel hrow'
          go_wp2
          go_meet
          case rel => exact ⟨HR.out, HB.out, hsz⟩
    case rest =>
    obtain ⟨hrow, hbel, hsz⟩ := hcut
    have HROW0 := hide hrow
    have HBEL0 := hide hbel
    clear hrow hbel
    rename_i wd
    go_upto_block 4 with fail
    go_cut [9] from 34 (fun v wx => ∃ (r : Nat) (hr : r < M.length), v = .int .i64 (r : Int) ∧ Hid (M.drop (r + 1) = List.replicate (M.length - (r + 1)) 48 ∧ M[r] ≠ 48) ∧ Row wx w.heap.size (M.take (r + 1) ++ List.replicate (M.length - (r + 1)) 57) ∧ Below w.heap.size w wx ∧ w.heap.size < wx.heap.size)
    case first =>
      go_wp2_with fail
      go_loopw [9] (fun i wr => ∃ q : Nat, q ≤ M.length ∧ i = .int .i64 ((q : Int) - 1) ∧ Hid (M.drop q = List.replicate (M.length - q) 48) ∧ Row wr w.heap.size (M.take q ++ List.replicate (M.length - q) 57) ∧ Below w.heap.size w wr ∧ w.heap.size < wr.heap.size) (fun i _ => (intOf i + 1).toNat)
      case atStart =>
        refine ⟨M.length, Nat.le_refl _, by go_num, ?_, ?_, HBEL0.out, hsz⟩
        · show M.drop M.length = List.replicate (M.length - M.length) 48
          rw [Nat.sub_self, List.drop_length]; rfl
        · rw [Nat.sub_self, List.take_length]; simpa using HROW0.out
      case round =>
        obtain ⟨q, hq, rfl, HTL, hrow, hbel, hsz⟩ := hrel
        cases q with
        | zero =>
          exfalso
          have ht := HTL.out
          rw [List.drop_zero] at ht
          exact HNO.out ht
        | succ r =>
          have hrH : r < M.length := by omega
          have hrX : r < (M.take (r + 1) ++ List.replicate (M.length - (r + 1)) 57).length := by simp; omega
          have hcl := hrow.cell r hrX
          have hfr := hrow.free r hrX
          rw [at_put hrH] at hcl
          have HROW := hide hrow
          have HBEL := hide hbel
          clear hrow hbel
          by_cases h9 : M[r] = 48
          · have h3 : ((M[r].toNat : Int) == 48) = true := by rw [h9]; rfl
            have HS := hide (tail_step hrH HTL.out h9)
            clear h9
            go_wp2
            have R := HROW.out.store r hrX 57 57 rfl
            rw [put_step hrH, put_same hrH] at R
            exact ⟨⟨r, by omega, by go_num, HS, R, HBEL.out.setCell (Nat.le_refl _) _, by simpa using hsz⟩, by simp [intOf]⟩
          · have h9' : M[r].toNat ≠ 48 := fun e => h9 (UInt8.toNat_inj.1 e)
            have h3 : ((M[r].toNat : Int) == 48) = false := by rw [beq_eq_false_iff_ne]; omega
            have HT2 := hide (And.intro HTL.out h9)
            clear h9
            go_wp2
            go_meet
            case rel => exact ⟨r, hrH, by go_num, HT2, HROW.out, HBEL.out, hsz⟩
    case rest =>
    obtain ⟨r, hr, rfl, HT, hrow, hbel, hsz⟩ := hcut
    have hrX : r < (M.take (r + 1) ++ List.replicate (M.length - (r + 1)) 57).length := by simp; omega
    have hcl := hrow.cell r hrX
    have hfr := hrow.free r hrX
    rw [at_put hr] at hcl
    obtain ⟨hdg1, hdg2⟩ := (isDig_iff M[r]).1 (allD_mem HMA.out (List.getElem_mem hr))
    have h9' : M[r].toNat ≠ 48 := fun e => HT.out.2 (UInt8.toNat_inj.1 e)
    obtain ⟨hYa, hYv⟩ := dec_val hr HMA.out HT.out.1 HT.out.2
    have R := hrow.store r hrX (UInt8.ofNat (M[r].toNat - 1)) ((M[r].toNat : Int) - 1) (by rw [toNat_ofNat (by omega)]; omega)
    rw [put_step hr] at R
    have hYl : (M.take r ++ UInt8.ofNat (M[r].toNat - 1) :: List.replicate (M.length - (r + 1)) 57).length = M.length := by simp; omega
    generalize M.take r ++ UInt8.ofNat (M[r].toNat - 1) :: List.replicate (M.length - (r + 1)) 57 = Y at *
    have HYA := hide hYa
    have HYV := hide hYv
    have HRY := hide R
    have HBY := hide (hbel.setCell (p := ⟨w.heap.size, r, none⟩) (Nat.le_refl _) (.int .u8 ((M[r].toNat : Int) - 1)))
    have hszy : w.heap.size < (World.setCell wc ⟨w.heap.size, r, none⟩ (.int .u8 ((M[r].toNat : Int) - 1))).heap.size := by simpa [World.setCell] using hsz
    clear hYa hYv R hrow hbel HT HROW0 HBEL0
    go_upto_block 6 with fail
    generalize hwY : World.setCell _ ⟨w.heap.size, r, none⟩ (.int .u8 ((M[r].toNat : Int) - 1)) = wy at *
    clear hwY hcl hfr
    go_cut [10] from 34 (fun v wx => ∃ (k : Nat), k < Y.length ∧ v = .int .i64 (k : Int) ∧ Hid (Y.drop k = decDigits (val Y)) ∧ wy = wx)
    case first =>
      go_wp2_with fail
      go_loop [10] (fun v => ∃ k : Nat, k < Y.length ∧ v = .int .i64 (k : Int) ∧ Hid (∀ j, j < k → Y.getD j 0 = 48)) (fun v => Y.length - (intOf v).toNat)
      case atStart => exact ⟨0, by omega, rfl, fun j hj => absurd hj (Nat.not_lt_zero _)⟩
      case round =>
        obtain ⟨k, hk, rfl, HZ⟩ := hrel
        have hck := HRY.out.cell k hk
        by_cases h1 : k + 1 < Y.length
        · by_cases h2 : Y[k] = 48
          · have h3 : ((Y[k].toNat : Int) == 48) = true := by rw [h2]; rfl
            have HS : Hid (∀ j, j < k + 1 → Y.getD j 0 = 48) := hide (fun j hj => by
              by_cases e : j = k
              · subst e; simp [List.getD, List.getElem?_eq_getElem hk, h2]
              · exact HZ.out j (by omega))
            clear h2
            go_wp2
            go_round
            case rel => exact ⟨k + 1, by omega, by go_num, HS⟩
            case measure => simp [intOf]; omega
          · have h3 : ((Y[k].toNat : Int) == 48) = false := by
              rw [beq_eq_false_iff_ne]; intro e; exact h2 (UInt8.toNat_inj.1 (by show Y[k].toNat = 48; omega))
            have HS := hide (strip_stop HYA.out hk HZ.out (.inl h2))
            clear h2
            go_wp2
            go_meet
            case rel => exact ⟨k, hk, rfl, HS, rfl⟩
        · have HS := hide (strip_stop HYA.out hk HZ.out (.inr (by omega)))
          go_wp2
          go_meet
          case rel => exact ⟨k, hk, rfl, HS, rfl⟩
    case rest =>
    obtain ⟨k, hk, rfl, HD, rfl⟩ := hcut
    go_upto_region 22 with fail
    go_quiet (fail)
    go_wp2
    go_returns
    refine ⟨43, Y.drop k, k, _, ?_, by rw [List.length_drop, hYl]; rfl, ?_, hszy, below_drewN HBY.out _⟩
    · rw [HD.out, HTX2.out, show val M - 1 = val Y by have := HYV.out; omega]
    · exact (HRY.out.drawn ⟨rfl, rfl, rfl, rfl⟩).newsAt k rfl
  | true =>
    have hTX := HTX.out
    rw [hcase] at hTX
    have HTX2 : Hid (TX = 45 :: decDigits (val (48 :: M) + 1)) := hide (by
      have e : val (48 :: M) = val M := by
        rw [val_cons, show dv 48 = 0 by decide]
        omega
      rw [e]
      exact hTX)
    have HHA : Hid (allD (48 :: M) = true) := hide (by rw [allD_cons, HMA.out]; rfl)
    clear hTX hcase HTX
    have hmk := run_make_row' (P := Tryd.prog) 33 5 (.int .u8 0) 1 Tryd.underlying33 info5 rfl .i64 .i64 (M.length + 1) (by omega) (by omega)
    have ec : ((M.length + 1 : Nat) : Int) = (M.length : Int) + 1 := by omega
    rw [ec] at hmk
    clear ec
    have hr0 := row_made w (M.length + 1) 5
    have hc0 := hr0.cell 0 (by simp)
    have hf0' := hr0.free 0 (by simp)
    clear hr0
    have HR1 : Hid (Row (w.alloc (.cells ((madeCells #[.int .u8 0] (M.length + 1)).setIfInBounds 0 (.int .u8 48)) 5)) w.heap.size (48 :: (M.take 0 ++ List.replicate (M.length - 0) 0))) := hide (by simpa using row_48 w M.length)
    have HB1 := hide ((Below.refl w.heap.size w).alloc (Nat.le_refl _) (.cells ((madeCells #[.int .u8 0] (M.length + 1)).setIfInBounds 0 (.int .u8 48)) 5))
    obtain ⟨H, hH⟩ : ∃ H, H = 48 :: M := ⟨_, rfl⟩
    have hHl : H.length = M.length + 1 := by rw [hH]; rfl
    have HNO : Hid (H = List.replicate (H.length - 0) 57 → False) := hide (fun e => by
      rw [hH] at e
      rw [List.length_cons, Nat.sub_zero, List.replicate_succ] at e
      injection e with e1 _
      exact absurd e1 (by decide))
    rw [← hH] at HTX2 HHA
    have HH := hide hH
    clear hH
    go_upto_block 8 with fail
    go_cut [12] from 34 (fun _ wx => Row wx w.heap.size H ∧ Below w.heap.size w wx ∧ w.heap.size < wx.heap.size)
    case first =>
      go_wp2_with fail
      go_loopw [12] (fun i wr => ∃ k : Nat, k ≤ M.length ∧ i = .int .i64 (k : Int) ∧ Row wr w.heap.size (48 :: (M.take k ++ List.replicate (M.length - k) 0)) ∧ Below w.heap.size w wr ∧ w.heap.size < wr.heap.size) (fun i _ => M.length - (intOf i).toNat)
      case atStart => exact ⟨0, Nat.zero_le _, rfl, HR1.out, HB1.out, by simp⟩
      case round =>
        obtain ⟨k, hk, rfl, hrow, hbel, hsz⟩ := hrel
        by_cases h1 : k < M.length
        · have hkS : k < S.size := by omega
          have hget := HSG.out k h1 hkS
          have hlen : (48 :: (M.take k ++ List.replicate (M.length - k) (0 : UInt8))).length = M.length + 1 := by simp; omega
          have hrk := hrow.cell (k + 1) (by omega)
          have hfk := hrow.free (k + 1) (by omega)
          have hnew := hrow.store (k + 1) (by omega) M[k] (M[k].toNat : Int) rfl
          rw [List.set_cons_succ, clone_step h1] at hnew
          have HN := hide hnew
          have HB := hide (hbel.setCell (p := ⟨w.heap.size, k + 1, none⟩) (Nat.le_refl _) (.int .u8 (M[k].toNat : Int)))
          clear hrow hbel hnew
          go_wp2
          exact ⟨⟨k + 1, h1, by go_num, HN.out, HB.out, by simpa [World.setCell] using hsz⟩, by simp [intOf]; omega⟩
        · obtain rfl : k = M.length := by omega
          rw [List.take_length, Nat.sub_self] at hrow
          have hrow' : Row wr w.heap.size H := by rw [HH.out]; simpa using hrow
          have HR := hide hrow'
          have HB := hide hbel
          clear hrow hbel hrow'
          go_wp2
          go_meet
          case rel => exact ⟨HR.out, HB.out, hsz⟩
    case rest =>
    obtain ⟨hrow, hbel, hsz⟩ := hcut
    have HROW0 := hide hrow
    have HBEL0 := hide hbel
    clear hrow hbel
    rename_i wd
    go_upto_block 10 with fail
    go_cut [13] from 34 (fun v wx => ∃ (r : Nat) (hr : r < H.length), v = .int .i64 (r : Int) ∧ Hid (H.drop (r + 1) = List.replicate (H.length - (r + 1)) 57 ∧ H[r] ≠ 57) ∧ Row wx w.heap.size (H.take (r + 1) ++ List.replicate (H.length - (r + 1)) 48) ∧ Below w.heap.size w wx ∧ w.heap.size < wx.heap.size)
    case first =>
      go_wp2_with fail
      go_loopw [13] (fun i wr => ∃ q : Nat, q ≤ H.length ∧ i = .int .i64 ((q : Int) - 1) ∧ Hid (H.drop q = List.replicate (H.length - q) 57) ∧ Row wr w.heap.size (H.take q ++ List.replicate (H.length - q) 48) ∧ Below w.heap.size w wr ∧ w.heap.size < wr.heap.size) (fun i _ => (intOf i + 1).toNat)
      case atStart =>
        refine ⟨H.length, Nat.le_refl _, by go_num, ?_, ?_, HBEL0.out, hsz⟩
        · show H.drop H.length = List.replicate (H.length - H.length) 57
          rw [Nat.sub_self, List.drop_length]; rfl
        · rw [Nat.sub_self, List.take_length]; simpa using HROW0.out
      case round =>
        obtain ⟨q, hq, rfl, HTL, hrow, hbel, hsz⟩ := hrel
        cases q with
        | zero =>
          exfalso
          have ht := HTL.out
          rw [List.drop_zero] at ht
          exact HNO.out ht
        | succ r =>
          have hrH : r < H.length := by omega
          have hrX : r < (H.take (r + 1) ++ List.replicate (H.length - (r + 1)) 48).length := by simp; omega
          have hcl := hrow.cell r hrX
          have hfr := hrow.free r hrX
          rw [at_put hrH] at hcl
          have HROW := hide hrow
          have HBEL := hide hbel
          clear hrow hbel
          by_cases h9 : H[r] = 57
          · have h3 : ((H[r].toNat : Int) == 57) = true := by rw [h9]; rfl
            have HS := hide (tail_step hrH HTL.out h9)
            clear h9
            go_wp2
            have R := HROW.out.store r hrX 48 48 rfl
            rw [put_step hrH, put_same hrH] at R
            exact ⟨⟨r, by omega, by go_num, HS, R, HBEL.out.setCell (Nat.le_refl _) _, by simpa using hsz⟩, by simp [intOf]⟩
          · have h9' : H[r].toNat ≠ 57 := fun e => h9 (UInt8.toNat_inj.1 e)
            have h3 : ((H[r].toNat : Int) == 57) = false := by rw [beq_eq_false_iff_ne]; omega
            have HT2 := hide (And.intro HTL.out h9)
            clear h9
            go_wp2
            go_meet
            case rel => exact ⟨r, hrH, by go_num, HT2, HROW.out, HBEL.out, hsz⟩
    case rest =>
    obtain ⟨r, hr, rfl, HT, hrow, hbel, hsz⟩ := hcut
    have hrX : r < (H.take (r + 1) ++ List.replicate (H.length - (r + 1)) 48).length := by simp; omega
    have hcl := hrow.cell r hrX
    have hfr := hrow.free r hrX
    rw [at_put hr] at hcl
    obtain ⟨hdg1, hdg2⟩ := (isDig_iff H[r]).1 (allD_mem HHA.out (List.getElem_mem hr))
    have h9' : H[r].toNat ≠ 57 := fun e => HT.out.2 (UInt8.toNat_inj.1 e)
    obtain ⟨hYa, hYv⟩ := inc_val hr HHA.out HT.out.1 HT.out.2
    have R := hrow.store r hrX (UInt8.ofNat (H[r].toNat + 1)) ((H[r].toNat : Int) + 1) (by rw [toNat_ofNat (by omega)]; omega)
    rw [put_step hr] at R
    have hYl : (H.take r ++ UInt8.ofNat (H[r].toNat + 1) :: List.replicate (H.length - (r + 1)) 48).length = H.length := by simp; omega
    generalize H.take r ++ UInt8.ofNat (H[r].toNat + 1) :: List.replicate (H.length - (r + 1)) 48 = Y at *
    have HYA := hide hYa
    have HYV := hide hYv
    have HRY := hide R
    have HBY := hide (hbel.setCell (p := ⟨w.heap.size, r, none⟩) (Nat.le_refl _) (.int .u8 ((H[r].toNat : Int) + 1)))
    have hszy : w.heap.size < (World.setCell wc ⟨w.heap.size, r, none⟩ (.int .u8 ((H[r].toNat : Int) + 1))).heap.size := by simpa [World.setCell] using hsz
    clear hYa hYv R hrow hbel HT HROW0 HBEL0
    go_upto_block 12 with fail
    generalize hwY : World.setCell _ ⟨w.heap.size, r, none⟩ (.int .u8 ((H[r].toNat : Int) + 1)) = wy at *
    clear hwY hcl hfr
    go_cut [14] from 34 (fun v wx => ∃ (k : Nat), k < Y.length ∧ v = .int .i64 (k : Int) ∧ Hid (Y.drop k = decDigits (val Y)) ∧ wy = wx)
    case first =>
      go_wp2_with fail
      go_loop [14] (fun v => ∃ k : Nat, k < Y.length ∧ v = .int .i64 (k : Int) ∧ Hid (∀ j, j < k → Y.getD j 0 = 48)) (fun v => Y.length - (intOf v).toNat)
      case atStart => exact ⟨0, by omega, rfl, fun j hj => absurd hj (Nat.not_lt_zero _)⟩
      case round =>
        obtain ⟨k, hk, rfl, HZ⟩ := hrel
        have hck := HRY.out.cell k hk
        by_cases h1 : k + 1 < Y.length
        · by_cases h2 : Y[k] = 48
          · have h3 : ((Y[k].toNat : Int) == 48) = true := by rw [h2]; rfl
            have HS : Hid (∀ j, j < k + 1 → Y.getD j 0 = 48) := hide (fun j hj => by
              by_cases e : j = k
              · subst e; simp [List.getD, List.getElem?_eq_getElem hk, h2]
              · exact HZ.out j (by omega))
            clear h2
            go_wp2
            go_round
            case rel => exact ⟨k + 1, by omega, by go_num, HS⟩
            case measure => simp [intOf]; omega
          · have h3 : ((Y[k].toNat : Int) == 48) = false := by
              rw [beq_eq_false_iff_ne]; intro e; exact h2 (UInt8.toNat_inj.1 (by show Y[k].toNat = 48; omega))
            have HS := hide (strip_stop HYA.out hk HZ.out (.inl h2))
            clear h2
            go_wp2
            go_meet
            case rel => exact ⟨k, hk, rfl, HS, rfl⟩
        · have HS := hide (strip_stop HYA.out hk HZ.out (.inr (by omega)))
          go_wp2
          go_meet
          case rel => exact ⟨k, hk, rfl, HS, rfl⟩
    case rest =>
    obtain ⟨k, hk, rfl, HD, rfl⟩ := hcut
    go_upto_region 37 with fail
    go_quiet (fail)
    go_wp2
    go_returns
    refine ⟨45, Y.drop k, k, _, ?_, by rw [List.length_drop, hYl, hHl]; rfl, ?_, hszy, below_drewN HBY.out _⟩
    · rw [HD.out, HTX2.out, HYV.out]
    · exact (HRY.out.drawn ⟨rfl, rfl, rfl, rfl⟩).newsAt k rfl

end Go.Proofs.Qxb6601790aDoor
