import Derived.Test.Qxb6601828aDoorChecked
import Derived.Test.Qxb6601828aDoorShelf
import Derived.WalkKit
import Derived.Handy
import Derived.WalkSpells
import Derived.WalkLawsBesides
import Derived.Shelf.Strings.Fold
import Derived.ScopeJumps
namespace Go.Proofs.Qxb6601828aDoor
open Go.RowKit

theorem hide {p : Prop} (h : p) : Hid p := h
theorem ret_bool {a b : Bool} (h : a = b) : Ending.returned (.bool a) = .returned (.bool b) := by rw [h]

set_option maxHeartbeats 400000 in
set_option maxRecDepth 100000 in
/-- unicode.SimpleFold at an ASCII code point: what the table says. -/
theorem simpleFold_ascii (r v : Nat) (w : World) (hr : r < 128) (hv : v < 65536) (hc : w.cell? ⟨0, r, none⟩ = some (.int .u16 (v : Int))) :
    Calls Tryd.prog 15 #[.int .i32 r] w fun e w' => e = .returned (.int .i32 v) ∧ w' = w := by
  go_enter Tryd.func15, Tryd.ntmps15
  go_wp2
  go_ret
  exact ⟨rfl, rfl⟩

/-- What the walk asks of the folded word: each byte is ASCII, and the table leads from it to another ASCII byte and back (or to itself). -/
def Folds (w : World) (t : ByteArray) : Prop := ∀ j (h : j < t.size), t[j].toNat < 128 ∧ ∃ z : Nat, z < 128 ∧ w.cell? ⟨0, t[j].toNat, none⟩ = some (.int .u16 (z : Int)) ∧ w.cell? ⟨0, z, none⟩ = some (.int .u16 (t[j].toNat : Int))

theorem extract_first (t : ByteArray) (i : Nat) (h : i < t.size) (h' : 0 < (t.extract i t.size).size) : (t.extract i t.size)[0] = t[i] := by
  have e1 := Lib.data_getElem? (t.extract i t.size) 0 h'
  rw [Lib.extract_data, List.getElem?_take_of_lt (by omega), List.getElem?_drop, Nat.add_zero, Lib.data_getElem? t i h] at e1
  exact (Option.some.inj e1).symm

set_option maxHeartbeats 400000 in
set_option maxRecDepth 100000 in
/-- utf8.DecodeRuneInString at an ASCII byte. -/
theorem decodeRune_ascii (t : ByteArray) (w : World) (h : 0 < t.size) (h0 : t[0].toNat < 128) :
    Calls Tryd.prog 14 #[.string t] w fun e w' => e = .returned (.tuple #[.int .i32 t[0].toNat, .int .i64 1]) ∧ w' = w := by
  have hne : t.toList.isEmpty = false := by
    rw [Lib.toList_data]
    cases e : t.data.toList with
    | nil => have := congrArg List.length e; rw [← Lib.size_eq, List.length_nil] at this; omega
    | cons a l => rfl
  go_enter Tryd.func14, Tryd.ntmps14
  go_wp2
  go_ret2
  exact ⟨rfl, rfl⟩

set_option maxHeartbeats 4000000 in
set_option maxRecDepth 100000 in
set_option linter.unusedVariables false in
theorem equalFold_any (s t : ByteArray) (w : World) (hs : s.size ≤ 1048576) (ht : t.size ≤ 1048576) (hf : Folds w t) (h0 : 0 < w.heap.size) :
    Calls Tryd.prog 10 #[.string s, .string t] w fun e w' => e = .returned (.bool (Lib.equalFold s.data.toList t.data.toList)) ∧ Below w.heap.size w w' := by
  have HF := hide hf
  clear hf
  obtain ⟨M, hM⟩ : ∃ M : Nat, min (s.size : Int) (t.size : Int) = (M : Int) := ⟨min s.size t.size, by omega⟩
  have hMs : M ≤ s.size := by omega
  have hMt : M ≤ t.size := by omega
  have hMe : M = s.size ∨ M = t.size := by omega
  go_enter Tryd.func10, Tryd.ntmps10
  go_wp2
  refine wp_scope_jumps 0 (fun a' w' => w' = w ∧ ∃ (i : Nat) (u4 u7 u8 u19 u20 u21 u22 u23 u24 u25 u26 u27 u28 u29 u30 u31 u32 u33 u34 u35 u36 u37 u38 u39 u40 u41 u42 u43 u44 u45 u46 u47 u48 u49 u50 u51 u52 u53 u54 : Value), a' = { tmps := #[.string s, .string t, undef, undef, u4, .int .i64 (i : Int), .int .i64 (M : Int), u7, u8, undef, undef, undef, undef, undef, .string s, .int .i64 (s.size : Int), .string t, .int .i64 (t.size : Int), .int .i64 (M : Int), u19, u20, u21, u22, u23, u24, u25, u26, u27, u28, u29, u30, u31, u32, u33, u34, u35, u36, u37, u38, u39, u40, u41, u42, u43, u44, u45, u46, u47, u48, u49, u50, u51, u52, u53, u54, undef, undef, undef, undef, undef, undef, undef, undef, undef, undef, undef, undef, undef, undef, undef, undef, undef, undef, undef, undef, undef, undef, undef, undef, undef, undef, undef, undef, undef, undef, undef, undef, undef, undef, undef, undef, undef, undef, undef, undef, undef, undef, undef, undef, undef, undef, undef, undef, undef, undef, undef, undef, undef, undef, undef, undef, undef, undef, undef, undef, undef, undef, undef, undef, undef, undef, undef, undef], defers := [] } ∧ i < M ∧ (∀ h : i < s.size, 128 ≤ s[i].toNat) ∧ Lib.equalFold (s.data.toList.drop i) (t.data.toList.drop i) = Lib.equalFold s.data.toList t.data.toList) (fun _ _ => 0) rfl ?_ ?_
  · go_wp2
    go_loop [5] (fun v => ∃ i : Nat, i ≤ M ∧ v = .int .i64 i ∧ Lib.equalFold (s.data.toList.drop i) (t.data.toList.drop i) = Lib.equalFold s.data.toList t.data.toList) (fun v => M - (intOf v).toNat)
    case atStart => exact ⟨0, Nat.zero_le _, rfl, rfl⟩
    case round =>
      obtain ⟨i, hi, rfl, hinv⟩ := hrel
      have HI := hide hinv
      clear hinv hM
      by_cases hiM : i < M
      · have hisz : i < s.size := by omega
        have hitz : i < t.size := by omega
        obtain ⟨x, hx⟩ : ∃ x : UInt8, s[i]'(by omega) = x := ⟨_, rfl⟩
        obtain ⟨y, hy⟩ : ∃ y : UInt8, t[i]'(by omega) = y := ⟨_, rfl⟩
        have hxl : s.data.toList[i]? = some x := by rw [← hx]; exact Lib.data_getElem? s i (by omega)
        have hyl : t.data.toList[i]? = some y := by rw [← hy]; exact Lib.data_getElem? t i (by omega)
        obtain ⟨hy128, z, hz, hcy, hcz⟩ := HF.out i hitz
        rw [hy] at hy128
        clear hcy hcz
        have hor : bits .or .u8 (x.toNat : Int) (y.toNat : Int) = ((x.toNat ||| y.toNat : Nat) : Int) := u8_or_nat _ _ (by have := x.toNat_lt; omega) (by omega)
        have Hx := hide (And.intro hxl hyl)
        clear hxl hyl
        by_cases hx128 : x.toNat < 128
        · have hor128 : ¬ ((128 : Int) ≤ ((x.toNat ||| y.toNat : Nat) : Int)) := by have := Nat.or_lt_two_pow (n := 7) hx128 hy128; omega
          go_wp2
          all_goals (try simp only [beq_iff_eq, beq_eq_false_iff_ne, ne_eq] at *)
          all_goals first
            | (go_round
               case measure => simp [intOf]; omega
               case rel => exact ⟨i + 1, by omega, by go_num, by rw [← HI.out, Lib.drop_at Hx.out.1, Lib.drop_at Hx.out.2, Lib.equalFold_yes _ _ _ _ (decide_eq_true (by omega))]⟩)
            | (simp only [Exit.jump]
               go_ret
               refine ⟨?_, Below.refl _ _⟩
               rw [← HI.out, Lib.drop_at Hx.out.1, Lib.drop_at Hx.out.2, Lib.equalFold_no _ _ _ _ (decide_eq_false (by omega))]
               rfl)
        · have hor128 : ((128 : Int) ≤ ((x.toNat ||| y.toNat : Nat) : Int)) := by have := Nat.left_le_or (n := x.toNat) (m := y.toNat); omega
          have HX := hide hx
          go_wp2_with fail
          go_step3
          exact ⟨rfl, rfl, i, _, _, _, _, _, _, _, _, _, _, _, _, _, _, _, _, _, _, _, _, _, _, _, _, _, _, _, _, _, _, _, _, _, _, _, _, _, _, _, rfl, hiM, fun _ => by rw [HX.out]; omega, HI.out⟩
      · obtain rfl : i = M := by omega
        have hE : Lib.equalFold s.data.toList t.data.toList = decide (s.size = t.size) := by
          rw [← HI.out, Lib.equalFold_end _ _ (by
            rcases hMe with h | h
            · exact Or.inl (List.drop_eq_nil_of_le (by rw [← Lib.size_eq]; omega))
            · exact Or.inr (List.drop_eq_nil_of_le (by rw [← Lib.size_eq]; omega))), List.length_drop, List.length_drop, ← Lib.size_eq, ← Lib.size_eq]
          exact decide_eq_decide.2 (by omega)
        have HE := hide hE
        clear hE
        by_cases hst : s.size = t.size
        · have hb : ((s.size : Int) == (t.size : Int)) = true := beq_iff_eq.2 (by omega)
          have HST := hide hst
          clear hst
          go_wp2
          simp only [Exit.jump]
          go_ret
          exact ⟨by rw [HE.out]; simp [HST.out], Below.refl _ _⟩
        · have hb : ((s.size : Int) == (t.size : Int)) = false := beq_eq_false_iff_ne.2 (by omega)
          have HST := hide hst
          clear hst
          go_wp2
          simp only [Exit.jump]
          go_ret
          exact ⟨by rw [HE.out]; simp [HST.out], Below.refl _ _⟩
  · rintro a' w' ⟨rfl, i, u4, u7, u8, u19, u20, u21, u22, u23, u24, u25, u26, u27, u28, u29, u30, u31, u32, u33, u34, u35, u36, u37, u38, u39, u40, u41, u42, u43, u44, u45, u46, u47, u48, u49, u50, u51, u52, u53, u54, rfl, hiM, hx128, hinv⟩
    have hisz : i < s.size := by omega
    have hitz : i < t.size := by omega
    have hxx := hx128 hisz
    obtain ⟨hy128, z, hz, hcy, hcz⟩ := HF.out i hitz
    have hsz' : 0 < (s.extract i s.size).size := by simp; omega
    have htz' : 0 < (t.extract i t.size).size := by simp; omega
    have htsz : (t.extract i t.size).size = t.size - i := by simp
    have hnx := fun ty => run_next_any (P := Tryd.prog) w' (s.extract i s.size) 0 ty hsz'
    have hd1 := (decode_high (s.extract i s.size) 0 hsz' (by rw [extract_first s i hisz]; exact hxx)).1
    have hd2 := decode_le (s.extract i s.size) 0
    generalize Utf8.decode (s.extract i s.size) 0 = R at *
    obtain ⟨rn, ln⟩ := R
    simp only at hd1 hd2 hnx
    have hE : Lib.equalFold s.data.toList t.data.toList = false := by
      rw [← hinv, Lib.drop_at (Lib.data_getElem? s i hisz), Lib.drop_at (Lib.data_getElem? t i hitz)]
      exact Lib.equalFold_no _ _ _ _ (decide_eq_false (by omega))
    have h14 := hide (fun wx => decodeRune_ascii (t.extract i t.size) wx htz' (by rw [extract_first t i hitz]; exact hy128))
    have e14 := extract_first t i hitz htz'
    generalize hyv : t[i] = y at *
    have HE := hide hE
    clear hx128 hinv hM hE HF hMe hyv
    go_wp2_with fail
    refine wp_loop_rounds 1 ?_
    rw [rounds_succ]
    go_wp2_with fail
    refine (h14.out _).mono ?_
    rintro e w1 ⟨rfl, rfl⟩
    rw [e14]
    have hcy' : (w'.iter (s.extract i s.size) (0 + ln)).cell? ⟨0, y.toNat, none⟩ = some (.int .u16 (z : Int)) := by unfold World.iter; rw [World.cell?_alloc_past _ _ _ h0]; exact hcy
    have hcz' : (w'.iter (s.extract i s.size) (0 + ln)).cell? ⟨0, z, none⟩ = some (.int .u16 (y.toNat : Int)) := by unfold World.iter; rw [World.cell?_alloc_past _ _ _ h0]; exact hcz
    have hb : Below w'.heap.size w' (w'.iter (s.extract i s.size) (0 + ln)) := (Below.refl _ _).alloc (Nat.le_refl _) _
    have h15a := hide (simpleFold_ascii y.toNat z _ hy128 (by omega) hcy')
    have h15b := hide (simpleFold_ascii z y.toNat _ hz (by omega) hcz')
    have HB := hide hb
    have hne1 : ((y.toNat : Int) == (rn : Int)) = false := by rw [beq_eq_false_iff_ne]; omega
    clear hb hcy hcz hcy' hcz' e14 h14
    rw [Nat.zero_add] at *
    generalize w'.iter (s.extract i s.size) ln = w2 at *
    go_wp2_with fail
    refine h15a.out.mono ?_
    rintro e w3 ⟨rfl, rfl⟩
    by_cases hzy : z = y.toNat
    · subst hzy
      go_wp2_with fail
      refine wp_loop_rounds 1 ?_
      rw [rounds_succ]
      go_wp2_with fail
      simp only [Exit.jump]
      go_ret
      exact ⟨ret_bool HE.out.symm, HB.out⟩
    · have hzy1 : ((z : Int) != (y.toNat : Int)) = true := by rw [bne_iff_ne]; omega
      have hyy1 : ((y.toNat : Int) != (y.toNat : Int)) = false := by simp
      go_wp2_with fail
      refine wp_loop_rounds 2 ?_
      rw [rounds_succ]
      go_wp2_with fail
      refine h15b.out.mono ?_
      rintro e w4 ⟨rfl, rfl⟩
      go_wp2_with fail
      rw [rounds_succ]
      go_wp2_with fail
      simp only [Exit.jump]
      go_ret
      exact ⟨ret_bool HE.out.symm, HB.out⟩

end Go.Proofs.Qxb6601828aDoor
