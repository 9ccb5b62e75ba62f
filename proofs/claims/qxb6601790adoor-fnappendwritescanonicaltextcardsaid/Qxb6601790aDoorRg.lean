/-
  The walk of fromParts.
-/
import Derived.Test.Qxb6601790aDoorRf
namespace Go.Proofs.Qxb6601790aDoor
open Go.RowKit Num
open Go.Lib (decDigits)

/-- The struct of a number. -/
def nmV (n : Nm) : Value := .agg #[.bool n.neg, .string ⟨n.ip.toArray⟩, .string ⟨n.fp.toArray⟩, .int .i64 n.pt, .string ⟨n.bp.toArray⟩]

theorem trimR_ne {l : List UInt8} (h : trimL l ≠ []) : trimR (trimL l) ≠ [] := fun e => h (by rw [trimR_nil_iff, trimL_idem] at e; exact e)
theorem ie_false {l : List UInt8} (h : l ≠ []) : l.isEmpty = false := by cases l with | nil => exact absurd rfl h | cons _ _ => rfl

theorem fromP_zero {n : Bool} {ip fp ex : List UInt8} (h1 : trimL ip = []) (h2 : trimR (trimL fp) = []) : fromP ⟨n, ip, fp, ex⟩ = .zero := by
  unfold fromP mkN
  have hf : fracT ip fp = [] := by unfold fracT; rw [h1]; exact h2
  have hi : intT ip fp = [] := by unfold intT; rw [hf, h1]; rfl
  rw [hf, hi]; rfl
theorem fromP_frac {n : Bool} {ip fp ex : List UInt8} (h1 : trimL ip = []) (h2 : trimR (trimL fp) ≠ []) : fromP ⟨n, ip, fp, ex⟩ = ⟨n, [], trimR (trimL fp), (addExp ex (-((fp.length : Int) - (trimL fp).length))).1, (addExp ex (-((fp.length : Int) - (trimL fp).length))).2⟩ := by
  unfold fromP mkN
  have hf : fracT ip fp = trimR (trimL fp) := by unfold fracT; rw [h1]; rfl
  have hi : intT ip fp = [] := by unfold intT; rw [hf, ie_false h2, h1]; rfl
  have hs : shiftOf ip fp = -((fp.length : Int) - (trimL fp).length) := by unfold shiftOf; rw [h1]; rfl
  simp only [hf, hi, hs, ie_false h2]
  rfl
theorem fromP_int {n : Bool} {ip fp ex : List UInt8} (h1 : trimL ip ≠ []) (h2 : trimR fp = []) : fromP ⟨n, ip, fp, ex⟩ = ⟨n, trimR (trimL ip), [], (addExp ex (trimL ip).length).1, (addExp ex (trimL ip).length).2⟩ := by
  unfold fromP mkN
  have hf : fracT ip fp = [] := by unfold fracT; rw [ie_false h1]; exact h2
  have hi : intT ip fp = trimR (trimL ip) := by unfold intT; rw [hf]; rfl
  have hs : shiftOf ip fp = (trimL ip).length := by unfold shiftOf; rw [ie_false h1]; rfl
  simp only [hf, hi, hs, ie_false (trimR_ne h1)]
  rfl
theorem fromP_both {n : Bool} {ip fp ex : List UInt8} (h1 : trimL ip ≠ []) (h2 : trimR fp ≠ []) : fromP ⟨n, ip, fp, ex⟩ = ⟨n, trimL ip, trimR fp, (addExp ex (trimL ip).length).1, (addExp ex (trimL ip).length).2⟩ := by
  unfold fromP mkN
  have hf : fracT ip fp = trimR fp := by unfold fracT; rw [ie_false h1]; rfl
  have hi : intT ip fp = trimL ip := by unfold intT; rw [hf, ie_false h2]; rfl
  have hs : shiftOf ip fp = (trimL ip).length := by unfold shiftOf; rw [ie_false h1]; rfl
  simp only [hf, hi, hs, ie_false h1]
  rfl
theorem nmV_of {e : Ending} {n m : Nm} (h : n = m) (he : e = .returned (nmV m)) : e = .returned (nmV n) := by rw [h]; exact he


/-- Two structs laid one behind the other, and what came after left them alone. -/
theorem two_blocks {w w2 : World} {a0 a1 a2 a3 a4 b0 b1 b2 b3 b4 : Value} {t u : TypeId} (hb : Below ((w.alloc (.cells #[a0, a1, a2, a3, a4] t)).alloc (.cells #[b0, b1, b2, b3, b4] u)).heap.size ((w.alloc (.cells #[a0, a1, a2, a3, a4] t)).alloc (.cells #[b0, b1, b2, b3, b4] u)) w2) :
    (∀ k, w2.cell? ⟨w.heap.size + 1, k, none⟩ = #[b0, b1, b2, b3, b4][k]?) ∧ (∀ k, w2.cell? ⟨w.heap.size, k, none⟩ = #[a0, a1, a2, a3, a4][k]?) ∧ (∀ k, w2.frozen? ⟨w.heap.size + 1, k, none⟩ = false) ∧ (∀ k, w2.frozen? ⟨w.heap.size, k, none⟩ = false) := by
  have hsz : (w.alloc (.cells #[a0, a1, a2, a3, a4] t)).heap.size = w.heap.size + 1 := by simp
  have hsz2 : ((w.alloc (.cells #[a0, a1, a2, a3, a4] t)).alloc (.cells #[b0, b1, b2, b3, b4] u)).heap.size = w.heap.size + 2 := by simp
  have hbb : Below (w.alloc (.cells #[a0, a1, a2, a3, a4] t)).heap.size (w.alloc (.cells #[a0, a1, a2, a3, a4] t)) ((w.alloc (.cells #[a0, a1, a2, a3, a4] t)).alloc (.cells #[b0, b1, b2, b3, b4] u)) := (Below.refl _ _).alloc (Nat.le_refl _) _
  refine ⟨fun k => ?_, fun k => ?_, fun k => ?_, fun k => ?_⟩
  · rw [hb.cell (p := ⟨w.heap.size + 1, k, none⟩) (by show w.heap.size + 1 < _; omega), ← hsz, World.cell?_alloc_new]
  · rw [hb.cell (p := ⟨w.heap.size, k, none⟩) (by show w.heap.size < _; omega), hbb.cell (p := ⟨w.heap.size, k, none⟩) (by show w.heap.size < _; omega), World.cell?_alloc_new]
  · rw [hb.frozen (p := ⟨w.heap.size + 1, k, none⟩) (by show w.heap.size + 1 < _; omega), ← hsz]; simp
  · rw [hb.frozen (p := ⟨w.heap.size, k, none⟩) (by show w.heap.size < _; omega), hbb.frozen (p := ⟨w.heap.size, k, none⟩) (by show w.heap.size < _; omega)]; simp

/-- Five cells of one block laid one by one. -/
theorem five_cells {w : World} {b : Nat} {u0 u1 u2 u3 u4 : Value} (h0 : w.cell? ⟨b, 0, none⟩ = some u0) (h1 : w.cell? ⟨b, 1, none⟩ = some u1) (h2 : w.cell? ⟨b, 2, none⟩ = some u2) (h3 : w.cell? ⟨b, 3, none⟩ = some u3) (h4 : w.cell? ⟨b, 4, none⟩ = some u4) (v0 v1 v2 v3 v4 : Value) :
    (((((w.setCell ⟨b, 0, none⟩ v0).setCell ⟨b, 1, none⟩ v1).setCell ⟨b, 2, none⟩ v2).setCell ⟨b, 3, none⟩ v3).setCell ⟨b, 4, none⟩ v4).cell? ⟨b, 0, none⟩ = some v0 ∧
    (((((w.setCell ⟨b, 0, none⟩ v0).setCell ⟨b, 1, none⟩ v1).setCell ⟨b, 2, none⟩ v2).setCell ⟨b, 3, none⟩ v3).setCell ⟨b, 4, none⟩ v4).cell? ⟨b, 1, none⟩ = some v1 ∧
    (((((w.setCell ⟨b, 0, none⟩ v0).setCell ⟨b, 1, none⟩ v1).setCell ⟨b, 2, none⟩ v2).setCell ⟨b, 3, none⟩ v3).setCell ⟨b, 4, none⟩ v4).cell? ⟨b, 2, none⟩ = some v2 ∧
    (((((w.setCell ⟨b, 0, none⟩ v0).setCell ⟨b, 1, none⟩ v1).setCell ⟨b, 2, none⟩ v2).setCell ⟨b, 3, none⟩ v3).setCell ⟨b, 4, none⟩ v4).cell? ⟨b, 3, none⟩ = some v3 ∧
    (((((w.setCell ⟨b, 0, none⟩ v0).setCell ⟨b, 1, none⟩ v1).setCell ⟨b, 2, none⟩ v2).setCell ⟨b, 3, none⟩ v3).setCell ⟨b, 4, none⟩ v4).cell? ⟨b, 4, none⟩ = some v4 := by
  have ot : ∀ (W : World) (i j : Nat) (v : Value), i ≠ j → (W.setCell ⟨b, i, none⟩ v).cell? ⟨b, j, none⟩ = W.cell? ⟨b, j, none⟩ := fun W i j v h => World.cell?_setCell_other _ _ _ _ (by intro h'; injection h' with _ h2 _; exact h h2)
  refine ⟨?_, ?_, ?_, ?_, ?_⟩
  · rw [ot _ 4 0 _ (by decide), ot _ 3 0 _ (by decide), ot _ 2 0 _ (by decide), ot _ 1 0 _ (by decide), World.cell?_setCell_same _ _ _ h0]
  · rw [ot _ 4 1 _ (by decide), ot _ 3 1 _ (by decide), ot _ 2 1 _ (by decide), World.cell?_setCell_same _ _ _ (by rw [ot _ 0 1 _ (by decide)]; exact h1)]
  · rw [ot _ 4 2 _ (by decide), ot _ 3 2 _ (by decide), World.cell?_setCell_same _ _ _ (by rw [ot _ 1 2 _ (by decide), ot _ 0 2 _ (by decide)]; exact h2)]
  · rw [ot _ 4 3 _ (by decide), World.cell?_setCell_same _ _ _ (by rw [ot _ 2 3 _ (by decide), ot _ 1 3 _ (by decide), ot _ 0 3 _ (by decide)]; exact h3)]
  · rw [World.cell?_setCell_same _ _ _ (by rw [ot _ 3 4 _ (by decide), ot _ 2 4 _ (by decide), ot _ 1 4 _ (by decide), ot _ 0 4 _ (by decide)]; exact h4)]
theorem Below.five {B : Nat} {w w' : World} (h : Below B w w') {b : Nat} (hB : B ≤ b) (v0 v1 v2 v3 v4 : Value) : Below B w (((((w'.setCell ⟨b, 0, none⟩ v0).setCell ⟨b, 1, none⟩ v1).setCell ⟨b, 2, none⟩ v2).setCell ⟨b, 3, none⟩ v3).setCell ⟨b, 4, none⟩ v4) :=
  ((((h.setCell (p := ⟨b, 0, none⟩) hB _).setCell (p := ⟨b, 1, none⟩) hB _).setCell (p := ⟨b, 2, none⟩) hB _).setCell (p := ⟨b, 3, none⟩) hB _).setCell (p := ⟨b, 4, none⟩) hB _
theorem other_block {w : World} {a b : Nat} {i : Nat} (j : Nat) (h : a ≠ b) (v : Value) {x : Value} (hx : w.cell? ⟨b, j, none⟩ = some x) : (w.setCell ⟨a, i, none⟩ v).cell? ⟨b, j, none⟩ = some x := by
  rw [World.cell?_setCell_other _ _ _ _ (by intro h'; injection h' with h1 _ _; exact h h1)]; exact hx

/-- The result's struct read at the return. -/
theorem res43 {tmps : Array Value} {W : World} {b : Nat} {v0 v1 v2 v3 v4 : Value} (hp : tmps.getD 8 undef = .pointer (some ⟨b, 0, none⟩)) (e0 : W.cell? ⟨b, 0, none⟩ = some v0) (e1 : W.cell? ⟨b, 1, none⟩ = some v1) (e2 : W.cell? ⟨b, 2, none⟩ = some v2) (e3 : W.cell? ⟨b, 3, none⟩ = some v3) (e4 : W.cell? ⟨b, 4, none⟩ = some v4) :
    (results Tryd.f43 tmps).run Tryd.prog W = .ok (.agg #[v0, v1, v2, v3, v4]) W := by
  rw [Array.getD_eq_getD_getElem?] at hp
  simp [results, Tryd.results43, go_sem, hp, e0, e1, e2, e3, e4]

set_option maxHeartbeats 1000000 in
set_option maxRecDepth 100000 in
theorem fromParts_any (n : Bool) (ip fp ex : ByteArray) (w : World) (htab : Tab powName w) (hs1 : ip.size ≤ 4194304) (hs2 : fp.size ≤ 4194304) (hs3 : ex.size ≤ 4194304) (ha : allD (dropSign ex.data.toList) = true) :
    Calls Tryd.prog 43 #[.bool n, .string ip, .string fp, .string ex] w fun e w' => e = .returned (nmV (fromP ⟨n, ip.data.toList, fp.data.toList, ex.data.toList⟩)) ∧ Below w.heap.size w w' := by
  have H40 := hide (trimZero_any ip)
  have H40b := hide (trimZero_any fp)
  have H45 := hide (fun sh wx htab h0 h1 => addExponent_any ex sh wx htab hs3 ha h0 h1)
  have htl : (trimL fp.data.toList).length ≤ fp.size := by have := trimL_length fp.data.toList; rw [len_data] at this; omega
  have htl1 : (trimL ip.data.toList).length ≤ ip.size := by have := trimL_length ip.data.toList; rw [len_data] at this; omega
  have hlr : (trimR fp.data.toList).length ≤ fp.size := by have := trimR_le fp.data.toList; rw [len_data] at this; omega
  clear ha
  by_cases h1 : trimL ip.data.toList = []
  · rw [h1] at H40
    have H59 := hide (fun wx => trimZeroR_any ⟨(trimL fp.data.toList).toArray⟩ wx (by rw [size_mk]; omega))
    rw [data_mk] at H59
    by_cases h2 : trimR (trimL fp.data.toList) = []
    · rw [h2] at H59
      have H59b := hide (fun wx => trimZeroR_any ⟨#[]⟩ wx (by decide))
      have FIN := hide (fromP_zero (n := n) (ex := ex.data.toList) h1 h2)
      clear h1 h2
      generalize trimL fp.data.toList = t at *
      go_enter Tryd.func43, Tryd.ntmps43
      go_wp2_with fail
      refine (H40.out _).mono ?_
      rintro e w1 ⟨rfl, rfl⟩
      go_wp2_with fail
      refine (H40b.out _).mono ?_
      rintro e w1 ⟨rfl, rfl⟩
      go_wp2_with fail
      refine (H59.out _).mono ?_
      rintro e w1 ⟨rfl, rfl⟩
      go_wp2_with fail
      refine (H59b.out _).mono ?_
      rintro e w1 ⟨rfl, rfl⟩
      go_wp2_with fail
      go_returns
      exact ⟨nmV_of FIN.out rfl, (Below.refl _ _).alloc (Nat.le_refl _) _⟩
    · have FIN := hide (fromP_frac (n := n) (ex := ex.data.toList) h1 h2)
      rw [len_data] at FIN
      have hrE := ie_false h2
      clear h1 h2
      generalize trimR (trimL fp.data.toList) = r at *
      generalize trimL fp.data.toList = t at *
      have H45' := hide (fun wx htab => H45.out (-((fp.size : Int) - (t.length : Int))) wx htab (by omega) (by omega))
      unfold addV at H45'
      generalize addExp ex.data.toList (-((fp.size : Int) - (t.length : Int))) = q at *
      obtain ⟨q1, q2⟩ := q
      go_enter Tryd.func43, Tryd.ntmps43
      go_wp2_with fail
      refine (H40.out _).mono ?_
      rintro e w1 ⟨rfl, rfl⟩
      go_wp2_with fail
      refine (H40b.out _).mono ?_
      rintro e w1 ⟨rfl, rfl⟩
      go_wp2_with fail
      refine (H59.out _).mono ?_
      rintro e w1 ⟨rfl, rfl⟩
      go_wp2_with fail
      refine (H45'.out _ (htab.below (((Below.refl _ _).alloc (Nat.le_refl _) _).alloc (by simp) _))).mono ?_
      rintro e w2 ⟨rfl, hb⟩
      obtain ⟨hc1, hc0, hf1, hf0⟩ := two_blocks hb
      have c0 := hc1 0
      have c1 := hc1 1
      have c2 := hc1 2
      have c3 := hc1 3
      have c4 := hc1 4
      have d0 := hc0 0
      have d1 := hc0 1
      have d2 := hc0 2
      have d3 := hc0 3
      have d4 := hc0 4
      have HB := hide ((((Below.refl w.heap.size w).alloc (Nat.le_refl _) _).alloc (by simp) _).trans (hb.mono (by simp; omega)))
      have HC := hide hc0
      clear hb hc1 hc0
      go_wp2_with fail
      have hne : w.heap.size + 1 ≠ w.heap.size := by omega
      obtain ⟨e0, e1, e2, e3, e4⟩ := five_cells (other_block 0 hne _ (other_block 0 hne (.int .i64 q1) (HC.out 0))) (other_block 1 hne _ (other_block 1 hne (.int .i64 q1) (HC.out 1))) (other_block 2 hne _ (other_block 2 hne (.int .i64 q1) (HC.out 2))) (other_block 3 hne _ (other_block 3 hne (.int .i64 q1) (HC.out 3))) (other_block 4 hne (.string ⟨q2.toArray⟩) (other_block 4 hne (.int .i64 q1) (HC.out 4))) (.bool n) (.string ⟨#[]⟩) (.string ⟨r.toArray⟩) (.int .i64 q1) (.string ⟨q2.toArray⟩)
      refine bodyPost_ret (res43 rfl e0 e1 e2 e3 e4) rfl ?_
      exact ⟨nmV_of FIN.out rfl, Below.five ((HB.out.setCell (p := ⟨w.heap.size + 1, 3, none⟩) (Nat.le_succ _) _).setCell (p := ⟨w.heap.size + 1, 4, none⟩) (Nat.le_succ _) _) (Nat.le_refl _) _ _ _ _ _⟩
  · have H59 := hide (fun wx => trimZeroR_any fp wx hs2)
    have hiE := ie_false h1
    by_cases h2 : trimR fp.data.toList = []
    · rw [h2] at H59
      have H59b := hide (fun wx => trimZeroR_any ⟨(trimL ip.data.toList).toArray⟩ wx (by rw [size_mk]; omega))
      rw [data_mk] at H59b
      have FIN := hide (fromP_int (n := n) (ex := ex.data.toList) h1 h2)
      have hrE := ie_false (trimR_ne h1)
      clear h1 h2
      generalize trimR (trimL ip.data.toList) = r at *
      generalize trimL ip.data.toList = t at *
      have H45' := hide (fun wx htab => H45.out ((t.length : Int)) wx htab (by omega) (by omega))
      unfold addV at H45'
      generalize addExp ex.data.toList ((t.length : Int)) = q at *
      obtain ⟨q1, q2⟩ := q
      go_enter Tryd.func43, Tryd.ntmps43
      go_wp2_with fail
      refine (H40.out _).mono ?_
      rintro e w1 ⟨rfl, rfl⟩
      go_wp2_with fail
      refine (H59.out _).mono ?_
      rintro e w1 ⟨rfl, rfl⟩
      go_wp2_with fail
      refine (H59b.out _).mono ?_
      rintro e w1 ⟨rfl, rfl⟩
      go_wp2_with fail
      refine (H45'.out _ (htab.below (((Below.refl _ _).alloc (Nat.le_refl _) _).alloc (by simp) _))).mono ?_
      rintro e w2 ⟨rfl, hb⟩
      obtain ⟨hc1, hc0, hf1, hf0⟩ := two_blocks hb
      have c0 := hc1 0
      have c1 := hc1 1
      have c2 := hc1 2
      have c3 := hc1 3
      have c4 := hc1 4
      have d0 := hc0 0
      have d1 := hc0 1
      have d2 := hc0 2
      have d3 := hc0 3
      have d4 := hc0 4
      have HB := hide ((((Below.refl w.heap.size w).alloc (Nat.le_refl _) _).alloc (by simp) _).trans (hb.mono (by simp; omega)))
      have HC := hide hc0
      clear hb hc1 hc0
      go_wp2_with fail
      have hne : w.heap.size + 1 ≠ w.heap.size := by omega
      obtain ⟨e0, e1, e2, e3, e4⟩ := five_cells (other_block 0 hne _ (other_block 0 hne (.int .i64 q1) (HC.out 0))) (other_block 1 hne _ (other_block 1 hne (.int .i64 q1) (HC.out 1))) (other_block 2 hne _ (other_block 2 hne (.int .i64 q1) (HC.out 2))) (other_block 3 hne _ (other_block 3 hne (.int .i64 q1) (HC.out 3))) (other_block 4 hne (.string ⟨q2.toArray⟩) (other_block 4 hne (.int .i64 q1) (HC.out 4))) (.bool n) (.string ⟨r.toArray⟩) (.string ⟨#[]⟩) (.int .i64 q1) (.string ⟨q2.toArray⟩)
      refine bodyPost_ret (res43 rfl e0 e1 e2 e3 e4) rfl ?_
      exact ⟨nmV_of FIN.out rfl, Below.five ((HB.out.setCell (p := ⟨w.heap.size + 1, 3, none⟩) (Nat.le_succ _) _).setCell (p := ⟨w.heap.size + 1, 4, none⟩) (Nat.le_succ _) _) (Nat.le_refl _) _ _ _ _ _⟩
    · have FIN := hide (fromP_both (n := n) (ex := ex.data.toList) h1 h2)
      have hrE := ie_false h2
      clear h1 h2
      generalize trimR fp.data.toList = r at *
      generalize trimL ip.data.toList = t at *
      have H45' := hide (fun wx htab => H45.out ((t.length : Int)) wx htab (by omega) (by omega))
      unfold addV at H45'
      generalize addExp ex.data.toList ((t.length : Int)) = q at *
      obtain ⟨q1, q2⟩ := q
      go_enter Tryd.func43, Tryd.ntmps43
      go_wp2_with fail
      refine (H40.out _).mono ?_
      rintro e w1 ⟨rfl, rfl⟩
      go_wp2_with fail
      refine (H59.out _).mono ?_
      rintro e w1 ⟨rfl, rfl⟩
      go_wp2_with fail
      refine (H45'.out _ (htab.below (((Below.refl _ _).alloc (Nat.le_refl _) _).alloc (by simp) _))).mono ?_
      rintro e w2 ⟨rfl, hb⟩
      obtain ⟨hc1, hc0, hf1, hf0⟩ := two_blocks hb
      have c0 := hc1 0
      have c1 := hc1 1
      have c2 := hc1 2
      have c3 := hc1 3
      have c4 := hc1 4
      have d0 := hc0 0
      have d1 := hc0 1
      have d2 := hc0 2
      have d3 := hc0 3
      have d4 := hc0 4
      have HB := hide ((((Below.refl w.heap.size w).alloc (Nat.le_refl _) _).alloc (by simp) _).trans (hb.mono (by simp; omega)))
      have HC := hide hc0
      clear hb hc1 hc0
      go_wp2_with fail
      have hne : w.heap.size + 1 ≠ w.heap.size := by omega
      obtain ⟨e0, e1, e2, e3, e4⟩ := five_cells (other_block 0 hne _ (other_block 0 hne (.int .i64 q1) (HC.out 0))) (other_block 1 hne _ (other_block 1 hne (.int .i64 q1) (HC.out 1))) (other_block 2 hne _ (other_block 2 hne (.int .i64 q1) (HC.out 2))) (other_block 3 hne _ (other_block 3 hne (.int .i64 q1) (HC.out 3))) (other_block 4 hne (.string ⟨q2.toArray⟩) (other_block 4 hne (.int .i64 q1) (HC.out 4))) (.bool n) (.string ⟨t.toArray⟩) (.string ⟨r.toArray⟩) (.int .i64 q1) (.string ⟨q2.toArray⟩)
      refine bodyPost_ret (res43 rfl e0 e1 e2 e3 e4) rfl ?_
      exact ⟨nmV_of FIN.out rfl, Below.five ((HB.out.setCell (p := ⟨w.heap.size + 1, 3, none⟩) (Nat.le_succ _) _).setCell (p := ⟨w.heap.size + 1, 4, none⟩) (Nat.le_succ _) _) (Nat.le_refl _) _ _ _ _ _⟩

end Go.Proofs.Qxb6601790aDoor
