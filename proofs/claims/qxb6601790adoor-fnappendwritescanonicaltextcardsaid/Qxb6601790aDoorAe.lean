/-
  Walks of zzEqualBytes and ZZMakeNumber; a slice of bytes made a string.
-/
import Derived.Test.Qxb6601790aDoorAd
import Derived.Test.Qxb6601790aDoorRk
namespace Go.Proofs.Qxb6601790aDoor
open Go.RowKit Num
open Go.Lib (decDigits)

theorem Txt.form {w : World} {v : Value} {xs : List UInt8} (h : Txt w v xs) : ∃ ao cap, v = .slice ao xs.length cap ∧ (0 < xs.length → ∃ g, ao = some ⟨g, 0, none⟩ ∧ g < w.heap.size ∧ xs.length ≤ cap ∧ Row w g xs) := by
  rcases h with ⟨rfl, rfl⟩ | ⟨g, cap, rfl, h1, h2, h3⟩
  · exact ⟨none, 0, rfl, fun h => absurd h (by simp)⟩
  · exact ⟨_, cap, rfl, fun _ => ⟨g, rfl, h1, h2, h3⟩⟩
/-- A slice that reads as these bytes, made a string. -/
theorem Txt.toStr {w : World} {v : Value} {xs : List UInt8} (h : Txt w v xs) (hne : xs ≠ []) : (convert 33 9 v).run Tryd.prog w = .ok (.string ⟨xs.toArray⟩) w := by
  rcases h with ⟨_, h⟩ | ⟨g, cap, rfl, h1, h2, h3⟩
  · exact absurd h hne
  · have := h3.toStr (P := Tryd.prog) 33 5 9 Tryd.underlying33 Tryd.underlying5 Tryd.underlying9 0 xs.length cap (by omega)
    rw [List.drop_zero, List.take_length] at this
    exact this
/-- Nothing but draws lies between. -/
structure Drawn (w w' : World) : Prop where
  heap : w'.heap = w.heap
  os : w'.os = w.os
  tape : w'.tape = w.tape
  output : w'.output = w.output
theorem Drawn.below {w w' : World} (h : Drawn w w') (B : Nat) : Below B w w' := ⟨h.os, h.tape, h.output, by rw [h.heap]; exact Nat.le_refl _, fun _ _ => by rw [h.heap]⟩
theorem Row.drawn {w w' : World} {g : Nat} {xs : List UInt8} (h : Row w g xs) (hd : Drawn w w') : Row w' g xs :=
  ⟨fun j hj => by rw [← h.cell j hj]; simp [World.cell?, hd.heap], fun j hj => by rw [← h.free j hj]; simp [World.frozen?, hd.heap]⟩

set_option maxHeartbeats 1000000 in
set_option maxRecDepth 100000 in
theorem zzEqualBytes_any (u v : Value) (xs : List UInt8) (w : World) (hu : Txt w u xs) (hv : Txt w v xs) (hl : xs.length ≤ 16777216) :
    Calls Tryd.prog 21 #[u, v] w fun e w' => e = .returned (.bool true) ∧ Below w.heap.size w w' := by
  obtain ⟨ao, c1, rfl, ha⟩ := hu.form
  obtain ⟨bo, c2, rfl, hb⟩ := hv.form
  by_cases h0 : xs.length = 0
  · rw [h0]
    clear ha hb
    go_enter Tryd.func21, Tryd.ntmps21
    go_wp2
    go_loopw [5] (fun i wr => i = .int .i64 0 ∧ wr = w) (fun _ _ => 0)
    case atStart => exact ⟨rfl, rfl⟩
    case round =>
      obtain ⟨rfl, rfl⟩ := hrel
      go_wp2
      go_ret
      exact ⟨rfl, Below.refl _ _⟩
  · obtain ⟨g1, rfl, hg1, hc1, hr1⟩ := ha (by omega)
    obtain ⟨g2, rfl, hg2, hc2, hr2⟩ := hb (by omega)
    have HR1 := hide hr1
    have HR2 := hide hr2
    clear ha hb hr1 hr2 hu hv
    go_enter Tryd.func21, Tryd.ntmps21
    go_wp2
    go_loopw [5] (fun i wr => ∃ k : Nat, k ≤ xs.length ∧ i = .int .i64 (k : Int) ∧ Drawn w wr) (fun i _ => xs.length - (intOf i).toNat)
    case atStart => exact ⟨0, Nat.zero_le _, rfl, ⟨rfl, rfl, rfl, rfl⟩⟩
    case round =>
      obtain ⟨k, hk, rfl, hd⟩ := hrel
      have HD := hide hd
      by_cases h1 : k < xs.length
      · have hk1 := (HR1.out.drawn hd).cell k h1
        have hk2 := (HR2.out.drawn hd).cell k h1
        clear hd
        go_upto_region 6 with fail
        go_quiet (fail)
        go_wp2
        exact ⟨⟨k + 1, h1, by go_num, ⟨HD.out.heap, HD.out.os, HD.out.tape, HD.out.output⟩⟩, by simp [intOf]; omega⟩
      · clear hd
        go_wp2
        go_ret
        exact ⟨rfl, HD.out.below _⟩

set_option maxHeartbeats 1000000 in
set_option maxRecDepth 100000 in
theorem ZZMakeNumber_any (n1 : Bool) (n2 n3 : ByteArray) (n4 : Int) (n5 : ByteArray) (w : World) : Calls Tryd.prog 27 #[.bool n1, .string n2, .string n3, .int .i64 n4, .string n5] w fun e w' => e = .returned (.agg #[.bool n1, .string n2, .string n3, .int .i64 n4, .string n5]) ∧ Below w.heap.size w w' := by
  go_enter Tryd.func27, Tryd.ntmps27
  go_wp2
  go_returns
  exact ⟨rfl, (Below.refl _ _).alloc (Nat.le_refl _) _⟩

end Go.Proofs.Qxb6601790aDoor
