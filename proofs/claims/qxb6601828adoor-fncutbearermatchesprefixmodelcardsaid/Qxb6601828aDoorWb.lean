/-
  strings.Cut at a blank.
-/
import Derived.Test.Qxb6601828aDoorChecked
import Derived.Test.Qxb6601828aDoorShelf
import Derived.WalkKit
import Derived.Handy
import Derived.WalkSpells
import Derived.WalkLawsBesides
import Derived.Deep.QuietTactic
import Derived.BigQuiet
import Derived.Lib.Fold
namespace Go.Proofs.Qxb6601828aDoor
open Go.RowKit

theorem hideb {p : Prop} (h : p) : Hid p := h

set_option maxHeartbeats 1000000 in
set_option maxRecDepth 100000 in
/-- stringslite.Index at one byte, the blank. -/
theorem index_blank (s : ByteArray) (w : World) :
    Calls Tryd.prog 20 #[.string s, .string ⟨#[32]⟩] w fun e w' => e = .returned (.int .i64 (Lib.indexByte s.data.toList 32)) ∧ w' = w := by
  have h26 := hideb (fun wx => Any.stringslite_IndexByte Tryd.lays217 s 32 wx)
  by_cases h : s.toList = [32]
  · have h1 : ([32] == s.toList) = true := by rw [h]; rfl
    go_enter Tryd.func20, Tryd.ntmps20
    go_wp2_with fail
    go_ret
    refine ⟨?_, rfl⟩
    rw [Lib.toList_data] at h
    rw [h]
    rfl
  · have h1 : ([32] == s.toList) = false := by rw [beq_eq_false_iff_ne]; exact fun e => h e.symm
    go_enter Tryd.func20, Tryd.ntmps20
    go_wp2_with fail
    refine (h26.out _).mono ?_
    rintro e w1 ⟨rfl, rfl⟩
    go_wp2_with fail
    go_ret
    exact ⟨rfl, rfl⟩

theorem indexByte_lt (l : List UInt8) (c : UInt8) : Lib.indexByte l c < l.length := by
  induction l with
  | nil => simp [Lib.indexByte]
  | cons b l ih =>
    rw [Lib.indexByte, List.length_cons]
    split
    · omega
    · split
      · omega
      · omega

set_option maxHeartbeats 1000000 in
set_option maxRecDepth 100000 in
/-- strings.Cut at a blank: none there. -/
theorem cut_none (s : ByteArray) (w : World) (h : Lib.indexByte s.data.toList 32 = -1) :
    Calls Tryd.prog 9 #[.string s, .string ⟨#[32]⟩] w fun e w' => e = .returned (.tuple #[.string s, .string ⟨#[]⟩, .bool false]) ∧ Below w.heap.size w w' := by
  have h20 := index_blank s w
  rw [h] at h20
  have H20 := hideb h20
  clear h20 h
  go_enter Tryd.func9, Tryd.ntmps9
  go_wp2_with (first | (go_at_call 20; refine H20.out.mono ?_; rintro e w1 ⟨rfl, rfl⟩) | go_in)
  go_ret3
  exact ⟨rfl, Below.refl _ _⟩

set_option maxHeartbeats 1000000 in
set_option maxRecDepth 100000 in
/-- strings.Cut at a blank: the first stands at place k. -/
theorem cut_some (s : ByteArray) (w : World) (k : Nat) (hs : s.size ≤ 2000000) (h : Lib.indexByte s.data.toList 32 = k) :
    Calls Tryd.prog 9 #[.string s, .string ⟨#[32]⟩] w fun e w' => e = .returned (.tuple #[.string (s.extract 0 k), .string (s.extract (k + 1) s.size), .bool true]) ∧ Below w.heap.size w w' := by
  have h20 := index_blank s w
  have hk := indexByte_lt s.data.toList 32
  rw [h, ← Lib.size_eq] at hk
  rw [h] at h20
  have H20 := hideb h20
  clear h20 h
  have hk' : k < s.size := by omega
  go_enter Tryd.func9, Tryd.ntmps9
  go_wp2_with (first | (go_at_call 20; refine H20.out.mono ?_; rintro e w1 ⟨rfl, rfl⟩) | go_in)
  go_quiet (fail)
  go_wp2
  go_ret3
  exact ⟨rfl, below_drewN (Below.refl _ _) _⟩

end Go.Proofs.Qxb6601828aDoor
