/-
  A row of bytes in memory, told by the list of its bytes.
-/
import Derived.Test.Qxb6601828aDoorChecked
import Derived.WalkKit
import Derived.Handy
import Derived.Deep.OwnRows
import Derived.Laws.BytesArg
namespace Go.Proofs.Qxb6601828aDoor
open Go.RowKit

/-- Block g holds these bytes from its head on; none of them is frozen. -/
structure Row (w : World) (g : Nat) (xs : List UInt8) : Prop where
  cell : ∀ j (h : j < xs.length), w.cell? ⟨g, j, none⟩ = some (.int .u8 (xs[j].toNat : Int))
  free : ∀ j, j < xs.length → w.frozen? ⟨g, j, none⟩ = false

theorem Row.drew {w : World} {g : Nat} {xs : List UInt8} (h : Row w g xs) : Row w.drew g xs := ⟨h.cell, h.free⟩
theorem Row.below {B : Nat} {w w' : World} {g : Nat} {xs : List UInt8} (h : Row w g xs) (hb : Below B w w') (hg : g < B) : Row w' g xs :=
  ⟨fun j hj => (hb.cell (p := ⟨g, j, none⟩) hg).trans (h.cell j hj), fun j hj => (hb.frozen (p := ⟨g, j, none⟩) hg).trans (h.free j hj)⟩
theorem Row.alloc {w : World} {g : Nat} {xs : List UInt8} (h : Row w g xs) (hg : g < w.heap.size) (o : Obj) : Row (w.alloc o) g xs :=
  h.below ((Below.refl _ _).alloc (Nat.le_refl _) o) hg
theorem Row.store {w : World} {g : Nat} {xs : List UInt8} (h : Row w g xs) (j : Nat) (hj : j < xs.length) (c : UInt8) (z : Int) (hz : z = (c.toNat : Int)) : Row (w.setCell ⟨g, j, none⟩ (.int .u8 z)) g (xs.set j c) := by
  subst hz
  refine ⟨fun i hi => ?_, fun i hi => by rw [World.frozen?_setCell]; exact h.free i (by simpa using hi)⟩
  by_cases e : j = i
  · subst e
    rw [World.cell?_setCell_same _ _ _ (h.cell j hj)]
    simp
  · rw [World.cell?_setCell_other _ _ _ _ (by intro h'; injection h' with _ h2 _; exact e h2)]
    rw [h.cell i (by simpa using hi), List.getElem_set_ne e]
theorem Row.setOther {w : World} {g : Nat} {xs : List UInt8} (h : Row w g xs) {a : Addr} (ha : a.block ≠ g) (v : Value) : Row (w.setCell a v) g xs :=
  ⟨fun i hi => by rw [World.cell?_setCell_other _ _ _ _ (by intro h'; apply ha; rw [h'])]; exact h.cell i hi, fun i hi => by rw [World.frozen?_setCell]; exact h.free i hi⟩
theorem row_made (w : World) (n : Nat) (t : TypeId) : Row (w.alloc (.cells (madeCells #[.int .u8 0] n) t)) w.heap.size (List.replicate n 0) := by
  refine ⟨fun j hj => ?_, fun j _ => by simp⟩
  have hj' : j < n := by simpa using hj
  rw [World.cell?_alloc_new]
  simp [madeCells, hj', Nat.mod_one]

/-- A slice of such a row, made a string. -/
theorem Row.toStr {P : Program} {w : World} {g : Nat} {xs : List UInt8} (h : Row w g xs) (src e dst : TypeId) (hs : P.underlying src = some (.slice e)) (he : P.underlying e = some (.int .u8)) (hd : P.underlying dst = some .string)
    (k n cap : Nat) (hk : k + n ≤ xs.length) :
    (convert src dst (.slice (some ⟨g, k, none⟩) n cap)).run P w = .ok (.string ⟨((xs.drop k).take n).toArray⟩) w := by
  have hl : (((xs.drop k).take n).map fun c => (c.toNat : Int)).length = n := by simp; omega
  rw [run_convert_bytes_arg (P := P) w src e hs he g k n cap (((xs.drop k).take n).map fun c => (c.toNat : Int)) hl (fun i hi => by
    rw [h.cell (k + i) (by omega)]
    simp [List.getD, List.getElem?_drop, hi, List.getElem?_eq_getElem (show k + i < xs.length by omega)]) dst hd]
  congr 2
  unfold strOfNums
  congr 2
  rw [List.map_map]
  conv => rhs; rw [← List.map_id ((xs.drop k).take n)]
  apply List.map_congr_left
  intro x _
  simp

theorem info5 : (Tryd.prog.info? 5).map (fun i => (i.zero, i.size, i.bytes)) = some (some (.int .u8 0), 1, 1) := by kernel_rfl

/-! ### Between a row that the call owns and a row of bytes -/
/-- The cells of these bytes. -/
def bv (xs : List UInt8) : List Value := xs.map fun c => Value.int .u8 (c.toNat : Int)
theorem bv_length (xs : List UInt8) : (bv xs).length = xs.length := by simp [bv]
theorem bv_append (a b : List UInt8) : bv (a ++ b) = bv a ++ bv b := by simp [bv]
theorem bv_at {xs : List UInt8} {j : Nat} {u : Value} (h : (bv xs)[j]? = some u) : ∃ hj : j < xs.length, u = .int .u8 (xs[j].toNat : Int) := by
  unfold bv at h
  rw [List.getElem?_map, Option.map_eq_some_iff] at h
  obtain ⟨c, hc, rfl⟩ := h
  obtain ⟨hj, rfl⟩ := List.getElem?_eq_some_iff.1 hc
  exact ⟨hj, rfl⟩
theorem bv_one {xs : List UInt8} : ∀ u ∈ bv xs, u.oneCell' = true := by
  intro u hu
  obtain ⟨c, _, rfl⟩ := List.mem_map.1 hu
  rfl
theorem Row.news {w : World} {g : Nat} {xs : List UInt8} (h : Row w g xs) : ∀ j u, (bv xs)[j]? = some u → w.cell? ((⟨g, 0, none⟩ : Addr).add j) = some u := by
  intro j u hu
  obtain ⟨hj, rfl⟩ := bv_at hu
  have e : (⟨g, 0, none⟩ : Addr).add j = ⟨g, j, none⟩ := by unfold Addr.add; split <;> simp_all
  rw [e]
  exact h.cell j hj
theorem row_of_owns {w : World} {base : Nat} {v : Value} {n : Nat} {xs : List UInt8} (h : w.ownsRow base 5 1 v n (bv xs)) (hn : 0 < n) :
    ∃ g cap, v = .slice (some ⟨g, 0, none⟩) n cap ∧ base ≤ g ∧ g < w.heap.size ∧ Row w g xs ∧ xs.length = n := by
  have hl : xs.length = n := by have := h.1; rw [bv_length, Nat.mul_one] at this; exact this
  rcases h.2 with ⟨_, h0⟩ | ⟨g, cap, cur, hv, hg, hh, hc, hm, hs, ht⟩
  · omega
  · refine ⟨g, cap, hv, hg, ?_, ⟨fun j hj => ?_, fun j hj => ?_⟩, hl⟩
    · rcases Nat.lt_or_ge g w.heap.size with h' | h'
      · exact h'
      · rw [Array.getElem?_eq_none h'] at hh; simp at hh
    · subst hv
      rw [h.cellAt j (by omega)]
      simp [bv, List.getElem?_eq_getElem hj]
    · subst hv
      exact h.frozenAt j

end Go.Proofs.Qxb6601828aDoor
