/-
  Walks of zzCloneBytes and zzSignedDigits.
-/
import Derived.Test.Qxb6601790aDoorAe
import Derived.Lib.BufferMore
namespace Go.Proofs.Qxb6601790aDoor
open Go.RowKit Num
open Go.Lib (decDigits)

/-- A slice of bytes, wherever it lies. -/
def Bts (w : World) (v : Value) (xs : List UInt8) : Prop := (v = .slice none 0 0 ∧ xs = []) ∨ ∃ a cap, v = .slice (some a) xs.length cap ∧ xs.length ≤ cap ∧ (0 < xs.length → ∃ b off, a = ⟨b, off, none⟩ ∧ b < w.heap.size ∧ ∀ j (h : j < xs.length), w.cell? ⟨b, off + j, none⟩ = some (.int .u8 (xs[j].toNat : Int)))
theorem Txt.bts {w : World} {v : Value} {xs : List UInt8} (h : Txt w v xs) : Bts w v xs := by
  rcases h with h | ⟨g, cap, h1, h2, h3, h4⟩
  · exact .inl h
  · refine .inr ⟨_, cap, h1, h3, fun _ => ⟨g, 0, rfl, h2, fun j hj => ?_⟩⟩
    rw [Nat.zero_add]
    exact h4.cell j hj
theorem clone_step {xs : List UInt8} {k : Nat} (hk : k < xs.length) : (xs.take k ++ List.replicate (xs.length - k) 0).set k xs[k] = xs.take (k + 1) ++ List.replicate (xs.length - (k + 1)) 0 := by
  have e : xs.length - k = (xs.length - (k + 1)) + 1 := by omega
  have hl : (xs.take k).length = k := by rw [List.length_take]; omega
  rw [e, List.replicate_succ, List.take_succ_eq_append_getElem hk, List.append_assoc]
  have := set_mid (xs.take k) (List.replicate (xs.length - (k + 1)) 0) 0 xs[k]
  rw [hl] at this
  rw [this]
  rfl

/-- What a clone is. -/
def Cloned (w : World) (xs : List UInt8) (e : Ending) (w' : World) : Prop := ∃ v', e = .returned v' ∧ (∀ B, Src w' B v' xs) ∧ Below w.heap.size w w'

set_option maxHeartbeats 1000000 in
set_option maxRecDepth 100000 in
theorem zzCloneBytes_any (v : Value) (xs : List UInt8) (w : World) (h : Bts w v xs) (hl : xs.length ≤ 4194304) : Calls Tryd.prog 25 #[v] w (Cloned w xs) := by
  rcases h with ⟨rfl, rfl⟩ | ⟨a, cap, rfl, hcap, hc⟩
  · have hnil : ∀ W, (binOp .eql 33 (.slice none 0 0) (.slice none 0 0)).run Tryd.prog W = .ok (.bool true) W := fun W => Lib.run_eql_slice_nil_nil W _ _ Tryd.underlying33
    go_enter Tryd.func25, Tryd.ntmps25
    go_wp2
    go_ret
    exact ⟨_, rfl, fun B => Src.nil w B, Below.refl _ _⟩
  · have hnil : ∀ W, (binOp .eql 33 (.slice (some a) xs.length cap) (.slice none 0 0)).run Tryd.prog W = .ok (.bool false) W := fun W => Lib.run_eql_slice_some_nil W _ _ _ Tryd.underlying33
    have hmk := run_make_row' (P := Tryd.prog) 33 5 (.int .u8 0) 1 Tryd.underlying33 info5 rfl .i64 .i64 xs.length (by omega) (by omega)
    go_enter Tryd.func25, Tryd.ntmps25
    go_wp2
    go_loopw [4] (fun i wr => ∃ k : Nat, k ≤ xs.length ∧ i = .int .i64 (k : Int) ∧ Row wr w.heap.size (xs.take k ++ List.replicate (xs.length - k) 0) ∧ Below w.heap.size w wr ∧ w.heap.size < wr.heap.size) (fun i _ => xs.length - (intOf i).toNat)
    case atStart => exact ⟨0, Nat.zero_le _, rfl, by simpa using row_made w xs.length 5, (Below.refl _ _).alloc (Nat.le_refl _) _, by simp⟩
    case round =>
      obtain ⟨k, hk, rfl, hrow, hbel, hsz⟩ := hrel
      by_cases h1 : k < xs.length
      · obtain ⟨b, off, rfl, hb, hcell⟩ := hc (by omega)
        have hlen : (xs.take k ++ List.replicate (xs.length - k) 0).length = xs.length := by simp; omega
        have hck : wr.cell? ⟨b, off + k, none⟩ = some (.int .u8 (xs[k].toNat : Int)) := by rw [hbel.cell (p := ⟨b, off + k, none⟩) hb]; exact hcell k h1
        have hrk := hrow.cell k (by omega)
        have hfk := hrow.free k (by omega)
        have hnew := hrow.store k (by omega) xs[k] (xs[k].toNat : Int) rfl
        rw [clone_step h1] at hnew
        have HN := hide hnew
        have HB := hide (hbel.setCell (p := ⟨w.heap.size, k, none⟩) (Nat.le_refl _) (.int .u8 (xs[k].toNat : Int)))
        clear hrow hbel hnew hcell
        go_wp2
        exact ⟨⟨k + 1, h1, by go_num, HN.out, HB.out, by simpa [World.setCell] using hsz⟩, by simp [intOf]; omega⟩
      · obtain rfl : k = xs.length := by omega
        rw [List.take_length, Nat.sub_self] at hrow
        have hrow' : Row wr w.heap.size xs := by simpa using hrow
        have HR := hide hrow'
        have HB := hide hbel
        clear hrow hbel hrow'
        go_wp2
        go_ret
        exact ⟨_, rfl, fun B => .inr ⟨w.heap.size, rfl, hsz, HR.out⟩, HB.out⟩

/-- An optional minus sign, then one digit or more. -/
def sd : List UInt8 → Bool
  | [] => false
  | c :: t => if c == 45 then !t.isEmpty && allD t else allD (c :: t)
theorem sd_cons (c : UInt8) (t : List UInt8) : sd (c :: t) = if c == 45 then !t.isEmpty && allD t else allD (c :: t) := rfl
theorem sd_facts {l : List UInt8} (h : sd l = true) : l ≠ [] ∧ dropSign l ≠ [] ∧ allD (dropSign l) = true := by
  cases l with
  | nil => exact absurd h (by decide)
  | cons c t =>
    refine ⟨by simp, ?_⟩
    rw [sd_cons] at h
    cases hc : (c == 45) with
    | true =>
      rw [hc, if_pos rfl, Bool.and_eq_true] at h
      have hs : isSg c = true := by unfold isSg; rw [hc, Bool.or_true]
      have e : dropSign (c :: t) = t := by simp [dropSign, hs]
      rw [e]
      exact ⟨by simpa using h.1, h.2⟩
    | false =>
      rw [hc, if_neg (by decide)] at h
      have e := (dropSign_all h).1
      rw [e]
      exact ⟨by simp, h⟩
theorem sd_at (s : ByteArray) (h : 0 < s.size) : sd s.data.toList = if s[0] == 45 then (decide (1 < s.size) && allD (s.extract 1 s.size).data.toList) else allD s.data.toList := by
  have e := drop_at s 0 h
  rw [List.drop_zero] at e
  have hl := len_data s
  have e1 : (s.extract 1 s.size).data.toList = s.data.toList.drop 1 := by
    rw [ext_list, List.take_of_length_le (by rw [List.length_drop]; omega)]
  rw [e1]
  rw [e] at hl ⊢
  rw [sd_cons]
  cases hc : (s[0] == 45) with
  | true =>
    rw [if_pos rfl, if_pos rfl]
    have ht : decide (1 < s.size) = !(s.data.toList.drop (0 + 1)).isEmpty := by
      rw [List.length_cons] at hl
      generalize s.data.toList.drop (0 + 1) = t at *
      cases t with
      | nil => rw [decide_eq_false (by simp at hl; omega)]; rfl
      | cons _ _ => rw [decide_eq_true (by simp at hl; omega)]; rfl
    rw [ht]
    rfl
  | false => rw [if_neg (by decide), if_neg (by decide)]

set_option maxHeartbeats 1000000 in
set_option maxRecDepth 100000 in
theorem zzSignedDigits_any (s : ByteArray) (w : World) (hs : s.size ≤ 4194304) : Calls Tryd.prog 24 #[.string s] w fun e w' => e = .returned (.bool (sd s.data.toList)) ∧ w' = w := by
  by_cases h0 : 0 < s.size
  · have hsd := sd_at s h0
    cases hc : (s[0] == 45) with
    | true =>
      have h3 : ((s[0].toNat : Int) == 45) = true := (beq_byte (c := s[0]) (d := 45) (z := 45) rfl).trans hc
      rw [hc, if_pos rfl] at hsd
      by_cases h1 : 1 < s.size
      · rw [decide_eq_true h1, Bool.true_and] at hsd
        have HF := hide (ret_bool hsd.symm)
        have H11 := hide (fun wx => zzAllDigits_any (s.extract 1 s.size) wx (by rw [ByteArray.size_extract]; unfold maxLen; omega))
        clear hsd
        generalize allD (s.extract 1 s.size).data.toList = A at *
        go_enter Tryd.func24, Tryd.ntmps24
        go_wp2_with (go_at_call 11; refine (H11.out _).mono ?_; rintro e w1 ⟨rfl, rfl⟩)
        go_ret
        exact ⟨HF.out, rfl⟩
      · rw [decide_eq_false h1, Bool.false_and] at hsd
        have HF := hide (ret_bool hsd.symm)
        clear hsd
        go_enter Tryd.func24, Tryd.ntmps24
        go_wp2
        go_ret
        exact ⟨HF.out, rfl⟩
    | false =>
      have h3 : ((s[0].toNat : Int) == 45) = false := (beq_byte (c := s[0]) (d := 45) (z := 45) rfl).trans hc
      rw [hc, if_neg (by decide)] at hsd
      have HF := hide (ret_bool hsd.symm)
      have H11 := hide (fun wx => zzAllDigits_any s wx (by unfold maxLen; omega))
      clear hsd
      generalize allD s.data.toList = A at *
      go_enter Tryd.func24, Tryd.ntmps24
      go_wp2_with (go_at_call 11; refine (H11.out _).mono ?_; rintro e w1 ⟨rfl, rfl⟩)
      go_ret
      exact ⟨HF.out, rfl⟩
  · have hl : s.data.toList = [] := by have := drop_all s 0 h0; rwa [List.drop_zero] at this
    rw [hl]
    go_enter Tryd.func24, Tryd.ntmps24
    go_wp2
    go_ret
    exact ⟨rfl, rfl⟩

end Go.Proofs.Qxb6601790aDoor
