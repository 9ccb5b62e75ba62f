/-
  Walks of addExponent and fromParts.
-/
import Derived.Test.Qxb6601790aDoorRe
import Derived.Test.Qxb6601790aDoorLib
import Derived.Shelf.Strings.SlTrimAscii
import Derived.BigQuiet
namespace Go.Proofs.Qxb6601790aDoor
open Go.RowKit Num
open Go.Lib (decDigits)

/-! ### The library's answers in plain words -/
theorem hasMinus (l : List UInt8) : Lib.hasPrefix l [45] = isNeg l := by
  cases l with
  | nil => rfl
  | cons c l =>
    unfold Lib.hasPrefix isNeg
    simp [List.isPrefixOf]
    by_cases h : c = 45
    · subst h; rfl
    · have h1 : (c == 45) = false := by simpa using h
      have h2 : (45 == c) = false := by simpa using fun e => h e.symm
      rw [h1, h2]
theorem hasPrefix_any (s : ByteArray) (w : World) : Calls Tryd.prog 47 #[.string s, .string ⟨#[45]⟩] w fun e w' => e = .returned (.bool (isNeg s.data.toList)) ∧ w' = w := by
  have := Tryd.strings_HasPrefix s ⟨#[45]⟩ w
  rw [show Lib.hasPrefix s.data.toList (⟨#[45]⟩ : ByteArray).data.toList = isNeg s.data.toList from hasMinus _] at this
  exact this
theorem trimZero_any (s : ByteArray) (w : World) : Calls Tryd.prog 40 #[.string s, .string ⟨#[48]⟩] w fun e w' => e = .returned (.string ⟨(trimL s.data.toList).toArray⟩) ∧ w' = w := paid40 s w
theorem trimZeroR_any (s : ByteArray) (w : World) (hs : s.size ≤ 4194304) : Calls Tryd.prog 59 #[.string s, .string ⟨#[48]⟩] w fun e w' => e = .returned (.string ⟨(trimR s.data.toList).toArray⟩) ∧ w' = w := Tryd.strings_TrimRight_one s 48 (by decide) w (by omega)
theorem info77 : (Tryd.prog.info? (Tryd.lays161_ren.t 116)).map (fun i => (i.zero, i.size)) = some (some (.agg (Array.replicate 256 (.bool false))), 256) := by kernel_rfl
/-- An exponent's sign struck: nothing but the sign, where a digit or nothing follows. -/
theorem trimSg {l : List UInt8} (h : allD (dropSign l) = true) : Lib.trimLeftS l [43, 45] = dropSign l := by
  have hc : ∀ c : UInt8, ([43, 45] : List UInt8).contains c = isSg c := by
    intro c
    unfold isSg
    simp [List.contains, List.elem]
    by_cases h1 : c = 43
    · subst h1; rfl
    · have e1 : (c == 43) = false := by simpa using h1
      by_cases h2 : c = 45
      · subst h2; rfl
      · have e2 : (c == 45) = false := by simpa using h2
        simp [e1, e2]
  unfold Lib.trimLeftS
  have hd : ∀ r : List UInt8, allD r = true → r.dropWhile (fun c => ([43, 45] : List UInt8).contains c) = r := by
    intro r hr
    cases r with
    | nil => rfl
    | cons c r =>
      rw [allD_cons, Bool.and_eq_true] at hr
      rw [List.dropWhile, hc, dig_not_sg hr.1]
  cases l with
  | nil => rfl
  | cons c r =>
    cases hs : isSg c with
    | true =>
      have e : dropSign (c :: r) = r := by simp [dropSign, hs]
      rw [e] at h ⊢
      rw [List.dropWhile, hc, hs]
      exact hd r h
    | false =>
      have e : dropSign (c :: r) = c :: r := by simp [dropSign, hs]
      rw [e] at h ⊢
      exact hd _ h
theorem trimSign_any (s : ByteArray) (w : World) (h : allD (dropSign s.data.toList) = true) : Calls Tryd.prog 40 #[.string s, .string ⟨#[43, 45]⟩] w fun e w' => e = .returned (.string ⟨(dropSign s.data.toList).toArray⟩) ∧ Below w.heap.size w w' := by
  have := Any.strings_TrimLeft_laid Tryd.lays161 info77 s ⟨#[43, 45]⟩ w (by decide) (by
    intro j b hb
    have hm : b ∈ [43, 45] := List.mem_of_getElem? hb
    simp at hm
    rcases hm with rfl | rfl <;> decide)
  rw [show Lib.trimLeftS s.data.toList (⟨#[43, 45]⟩ : ByteArray).data.toList = dropSign s.data.toList from trimSg h] at this
  exact this

theorem ret_iv {a a' : Int} {b b' : List UInt8} (h1 : a = a') (h2 : b = b') : Ending.returned (.tuple #[.int .i64 a, .string ⟨b.toArray⟩]) = .returned (.tuple #[.int .i64 a', .string ⟨b'.toArray⟩]) := by rw [h1, h2]
theorem dropSign_le (l : List UInt8) : (dropSign l).length ≤ l.length := by
  cases l with
  | nil => exact Nat.le_refl _
  | cons c r => cases h : isSg c <;> simp [dropSign, h]
theorem trimL_allD {l : List UInt8} (h : allD l = true) : allD (trimL l) = true := by rw [trimL_eq_drop]; exact allD_drop h _
theorem trimL_head {l : List UInt8} {c : UInt8} {t : List UInt8} (h : trimL l = c :: t) : c ≠ 48 := by
  intro e
  have h1 := trimL_idem l
  rw [h, e, trimL_cons_zero] at h1
  have h2 := congrArg List.length h1
  rw [trimL_length] at h2
  simp at h2
  omega
theorem trimL_big {l : List UInt8} (h : allD l = true) (hl : 19 ≤ (trimL l).length) : 1000000000000000000 ≤ val (trimL l) := by
  cases e : trimL l with
  | nil => rw [e] at hl; simp at hl
  | cons c t =>
    have hd := trimL_allD h
    rw [e] at hd hl
    have h1 := pos_of_head (l := t) (allD_mem hd (c := c) (by simp)) (trimL_head e)
    rw [List.length_cons] at hl
    have h2 : 10 ^ 18 ≤ 10 ^ t.length := Nat.pow_le_pow_right (by decide) (by omega)
    rw [pow18] at h2
    omega
theorem size_mk (l : List UInt8) : (⟨l.toArray⟩ : ByteArray).size = l.length := by show l.toArray.size = _; simp
theorem data_mk (l : List UInt8) : (⟨l.toArray⟩ : ByteArray).data.toList = l := by simp

/-- addExponent: the exponent and the shift, as a number or as a text. -/
def addV (ex : List UInt8) (sh : Int) : Value := .tuple #[.int .i64 (addExp ex sh).1, .string ⟨(addExp ex sh).2.toArray⟩]
theorem addV_small {ex mag : List UInt8} {n : Bool} {sh z : Int} (hm : trimL (dropSign ex) = mag) (hn : isNeg ex = n) (hl : mag.length ≤ 18) (hz : z = sgn n (val mag) + sh) : Ending.returned (.tuple #[.int .i64 z, .string ⟨#[]⟩]) = .returned (addV ex sh) := by
  unfold addV addExp addE
  rw [hm, hn, if_pos hl, hz]
theorem addV_big {ex mag out : List UInt8} {n : Bool} {sh : Int} (hm : trimL (dropSign ex) = mag) (hn : isNeg ex = n) (hl : ¬ mag.length ≤ 18) (ho : out = (if n then [45] else []) ++ decDigits ((val mag : Int) + sgn n sh).toNat) : Ending.returned (.tuple #[.int .i64 0, .string ⟨out.toArray⟩]) = .returned (addV ex sh) := by
  unfold addV addExp addE
  rw [hm, hn, if_neg hl, ho]

theorem sum_len {mag : List UInt8} {d : Int} (ha : allD mag = true) (hl : ¬ mag.length ≤ 18) (hd : d ≤ 4194305) : (decDigits ((val mag : Int) + d).toNat).length ≤ mag.length + 1 := by
  refine decDigits_len_le _ _ ?_ (by omega)
  have h1 := val_lt ha
  have h2 : 10 ^ 18 ≤ 10 ^ mag.length := Nat.pow_le_pow_right (by decide) (by omega)
  rw [pow18] at h2
  rw [Nat.pow_succ]
  omega

set_option maxHeartbeats 1000000 in
set_option maxRecDepth 100000 in
theorem addExponent_any (ex : ByteArray) (sh : Int) (w : World) (htab : Tab powName w) (hs : ex.size ≤ 4194304) (ha : allD (dropSign ex.data.toList) = true) (h0 : -4194305 ≤ sh) (h1 : sh ≤ 4194305) :
    Calls Tryd.prog 45 #[.string ex, .int .i64 sh] w fun e w' => e = .returned (addV ex.data.toList sh) ∧ Below w.heap.size w w' := by
  by_cases he : ex.data.toList = []
  · have hx : ex = ⟨#[]⟩ := by rw [← Lib.mk_data ex, he]
    subst hx
    have FIN := hide (addV_small (ex := []) (mag := []) (n := false) (sh := sh) (z := sh) rfl rfl (by simp) (by simp [sgn, val]))
    go_enter Tryd.func45, Tryd.ntmps45
    go_wp2
    go_ret2
    exact ⟨FIN.out, Below.refl _ _⟩
  · have hx : ex.toList.isEmpty = false := by
      rw [Lib.toList_data]
      cases e : ex.data.toList with
      | nil => exact absurd e he
      | cons a l => rfl
    have H47 := hide (hasPrefix_any ex)
    have H40 := hide (trimSign_any ex w ha)
    have hla : allD (trimL (dropSign ex.data.toList)) = true := trimL_allD ha
    have hbig := fun h => trimL_big ha h
    have hlen : (trimL (dropSign ex.data.toList)).length ≤ 4194304 := by
      have h1 := trimL_length (dropSign ex.data.toList)
      have h2 := dropSign_le ex.data.toList
      rw [len_data] at h2
      omega
    have H40b := hide (trimZero_any ⟨(dropSign ex.data.toList).toArray⟩)
    rw [data_mk] at H40b
    obtain ⟨mag, hmag⟩ : ∃ mag, trimL (dropSign ex.data.toList) = mag := ⟨_, rfl⟩
    obtain ⟨ng, hng⟩ : ∃ n, isNeg ex.data.toList = n := ⟨_, rfl⟩
    have FS := hide (fun hl z hz => addV_small (ex := ex.data.toList) (sh := sh) (z := z) hmag hng hl hz)
    have FB := hide (fun hl out ho => addV_big (ex := ex.data.toList) (sh := sh) (out := out) hmag hng hl ho)
    rw [hmag] at H40b hla hbig hlen
    rw [hng] at H47
    have HLA := hide hla
    have HBIG := hide hbig
    clear hmag hng hla hbig ha he
    generalize dropSign ex.data.toList = ds at *
    have hsz := size_mk mag
    by_cases hl : mag.length ≤ 18
    · have H37 := hide (fun w => digitsValue_any ⟨mag.toArray⟩ w (by rw [hsz]; exact hl) (by rw [data_mk]; exact HLA.out))
      rw [data_mk] at H37
      have hv := val_le_18 HLA.out hl
      cases ng with
      | true =>
        go_enter Tryd.func45, Tryd.ntmps45
        go_wp2_with (go_at_call 47; refine (H47.out _).mono ?_; rintro e w1 ⟨rfl, rfl⟩)
        refine H40.out.mono ?_
        rintro e w1 ⟨rfl, hb⟩
        have HB := hide hb
        clear hb
        go_wp2_with (go_at_call 40; refine (H40b.out _).mono ?_; rintro e w1 ⟨rfl, rfl⟩)
        refine (H37.out _).mono ?_
        rintro e w2 ⟨rfl, rfl⟩
        go_wp2
        go_ret2
        exact ⟨FS.out hl _ (by simp [sgn]), HB.out⟩
      | false =>
        go_enter Tryd.func45, Tryd.ntmps45
        go_wp2_with (go_at_call 47; refine (H47.out _).mono ?_; rintro e w1 ⟨rfl, rfl⟩)
        refine H40.out.mono ?_
        rintro e w1 ⟨rfl, hb⟩
        have HB := hide hb
        clear hb
        go_wp2_with (go_at_call 40; refine (H40b.out _).mono ?_; rintro e w1 ⟨rfl, rfl⟩)
        refine (H37.out _).mono ?_
        rintro e w2 ⟨rfl, rfl⟩
        go_wp2
        go_ret2
        exact ⟨FS.out hl _ (by simp [sgn]), HB.out⟩
    · have H29 := hide (fun d w htab h0 h1 => addToMagnitude_any powName paid38 paid39 paid40 ⟨mag.toArray⟩ d w htab (by rw [hsz]; omega) (by rw [hsz]; exact hlen) (by rw [data_mk]; exact HLA.out) h0 h1 (by rw [data_mk]; exact HBIG.out (by omega)))
      rw [data_mk] at H29
      cases ng with
      | true =>
        go_enter Tryd.func45, Tryd.ntmps45
        go_wp2_with (go_at_call 47; refine (H47.out _).mono ?_; rintro e w1 ⟨rfl, rfl⟩)
        refine H40.out.mono ?_
        rintro e w1 ⟨rfl, hb⟩
        have htab1 := htab.below hb
        have HB := hide hb
        clear hb
        go_wp2_with (go_at_call 40; refine (H40b.out _).mono ?_; rintro e w1 ⟨rfl, rfl⟩)
        refine (H29.out _ _ htab1 (by omega) (by omega)).mono ?_
        rintro e w2 ⟨rfl, hb2⟩
        have HB2 := hide hb2
        have hDl := sum_len (d := -sh) HLA.out hl (by omega)
        generalize hD : decDigits ((val mag : Int) + -sh).toNat = D at *
        have HD := hide hD
        clear hb2 hD
        go_wp2
        go_ret2
        refine ⟨FB.out hl _ ?_, HB.out.trans (HB2.out.mono HB.out.size)⟩
        rw [← HD.out]
        rfl
      | false =>
        go_enter Tryd.func45, Tryd.ntmps45
        go_wp2_with (go_at_call 47; refine (H47.out _).mono ?_; rintro e w1 ⟨rfl, rfl⟩)
        refine H40.out.mono ?_
        rintro e w1 ⟨rfl, hb⟩
        have htab1 := htab.below hb
        have HB := hide hb
        clear hb
        go_wp2_with (go_at_call 40; refine (H40b.out _).mono ?_; rintro e w1 ⟨rfl, rfl⟩)
        refine (H29.out _ _ htab1 (by omega) (by omega)).mono ?_
        rintro e w2 ⟨rfl, hb2⟩
        have HB2 := hide hb2
        clear hb2
        go_wp2
        go_ret2
        exact ⟨FB.out hl _ rfl, HB.out.trans (HB2.out.mono HB.out.size)⟩

end Go.Proofs.Qxb6601790aDoor
