/-
  The walks of ZZReadStrDecimal and ZZNumberFields.
-/
import Derived.Test.Qxb6601790aDoorRi
import Derived.BigQuiet
namespace Go.Proofs.Qxb6601790aDoor
open Go.RowKit Num
open Go.Lib (decDigits)

theorem res17 {tmps : Array Value} {W : World} {b : Nat} {v0 v1 v2 v3 v4 x : Value} (hp : tmps.getD 2 undef = .pointer (some ⟨b, 0, none⟩)) (hx : tmps.getD 3 undef = x) (e0 : W.cell? ⟨b, 0, none⟩ = some v0) (e1 : W.cell? ⟨b, 1, none⟩ = some v1) (e2 : W.cell? ⟨b, 2, none⟩ = some v2) (e3 : W.cell? ⟨b, 3, none⟩ = some v3) (e4 : W.cell? ⟨b, 4, none⟩ = some v4) :
    (results Tryd.f17 tmps).run Tryd.prog W = .ok (.tuple #[.agg #[v0, v1, v2, v3, v4], x]) W := by
  rw [Array.getD_eq_getD_getElem?] at hp hx
  simp [results, Tryd.results17, go_sem, hp, hx, e0, e1, e2, e3, e4]

set_option maxHeartbeats 1000000 in
set_option maxRecDepth 100000 in
theorem ZZReadStrDecimal_any (s : ByteArray) (w : World) (htab : Tab powName w) (hs : s.size ≤ 4194304) :
    Calls Tryd.prog 17 #[.string s] w fun e w' => e = .returned (rdV (readB s.data.toList)) ∧ Below w.heap.size w w' := by
  have H30 := hide (readStrDecimal_any s (w.alloc zObj) (htab.below ((Below.refl _ _).alloc (Nat.le_refl _) zObj)) hs)
  unfold rdV nmV at *
  generalize readB s.data.toList = q at *
  obtain ⟨⟨n1, n2, n3, n4, n5⟩, ok⟩ := q
  have HW := hide ((Below.refl w.heap.size w).alloc (Nat.le_refl _) zObj)
  go_enter Tryd.func17, Tryd.ntmps17
  go_wp2_with fail
  refine H30.out.mono ?_
  rintro e w2 ⟨rfl, hb⟩
  obtain ⟨hc2, hf2⟩ := one_block hb
  have c0 := hc2 0
  have c1 := hc2 1
  have c2 := hc2 2
  have c3 := hc2 3
  have c4 := hc2 4
  have HB := hide (HW.out.trans (hb.mono (by simp)))
  have HC := hide hc2
  clear hb hc2
  go_wp2
  obtain ⟨e0, e1, e2, e3, e4⟩ := five_cells (HC.out 0) (HC.out 1) (HC.out 2) (HC.out 3) (HC.out 4) (.bool n1) (.string ⟨n2.toArray⟩) (.string ⟨n3.toArray⟩) (.int .i64 n4) (.string ⟨n5.toArray⟩)
  refine bodyPost_ret (res17 rfl rfl e0 e1 e2 e3 e4) rfl ?_
  exact ⟨rfl, Below.five HB.out (Nat.le_refl _) _ _ _ _ _⟩

theorem below_drewN {B : Nat} {a w : World} (h : Below B a w) (k : Nat) : Below B a (w.drewN k) := ⟨h.os, h.tape, h.output, h.size, h.block⟩
def nfV (n : Nm) : Value := .tuple #[.bool n.neg, .string ⟨n.ip.toArray⟩, .string ⟨n.fp.toArray⟩, .int .i64 n.pt, .string ⟨n.bp.toArray⟩]
set_option maxHeartbeats 1000000 in
set_option maxRecDepth 100000 in
theorem ZZNumberFields_any (n : Nm) (w : World) : Calls Tryd.prog 18 #[nmV n] w fun e w' => e = .returned (nfV n) ∧ Below w.heap.size w w' := by
  obtain ⟨n1, n2, n3, n4, n5⟩ := n
  unfold nmV nfV
  go_enter Tryd.func18, Tryd.ntmps18
  go_upto_region 1 with fail
  go_quiet (fail)
  go_wp2
  go_returns
  exact ⟨rfl, below_drewN ((Below.refl _ _).alloc (Nat.le_refl _) _) _⟩

end Go.Proofs.Qxb6601790aDoor
