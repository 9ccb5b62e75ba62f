/-
  The law of the fifth function: the reader answers as the model.
-/
import Derived.Test.Qxb6601790aDoorRj
import Derived.Test.Qxb6601790aDoorRk
namespace Go.Proofs.Qxb6601790aDoor
open Go.RowKit Num
open Go.Lib (decDigits)

set_option maxHeartbeats 1000000 in
set_option maxRecDepth 100000 in
theorem law5 (s : ByteArray) (w : World) (htab : Tab powName w) (hs : s.size ≤ maxLen) :
    Calls Tryd.prog 5 #[.string s] w fun e w' => e = .returned (.bool true) ∧ Below w.heap.size w w' := by
  unfold maxLen at hs
  by_cases h1 : s.size ≤ 1048576
  · have H16 := hide (zzReadModel_any s w (by omega))
    have H17 := hide (fun wx ht => ZZReadStrDecimal_any s wx ht (by omega))
    have H18 := hide (fun n wx => ZZNumberFields_any n wx)
    rw [model_eq_read] at H16
    generalize readB s.data.toList = q at *
    obtain ⟨⟨n1, n2, n3, n4, n5⟩, ok⟩ := q
    have H18' := hide (fun wx => H18.out ⟨n1, n2, n3, n4, n5⟩ wx)
    unfold mdV at H16
    unfold rdV nmV at H17
    unfold nmV nfV at H18'
    clear H18
    go_enter Tryd.func5, Tryd.ntmps5
    go_wp2_with (go_at_call 15; go_in)
    refine H16.out.mono ?_
    rintro e w1 ⟨rfl, hb1⟩
    have HT1 := htab.below hb1
    have HB1 := hide hb1
    clear hb1
    go_wp2_with fail
    refine (H17.out _ HT1).mono ?_
    rintro e w2 ⟨rfl, hb2⟩
    have HB2 := hide (HB1.out.trans (hb2.mono HB1.out.size))
    clear hb2
    go_wp2_with fail
    refine (H18'.out _).mono ?_
    rintro e w3 ⟨rfl, hb3⟩
    have HB3 := hide hb3
    clear hb3
    go_wp2
    go_ret
    exact ⟨rfl, (HB2.out.alloc HB2.out.size _).trans (HB3.out.mono (by have := HB2.out.size; simp; omega))⟩
  · go_enter Tryd.func5, Tryd.ntmps5
    go_wp2
    go_ret
    exact ⟨rfl, Below.refl _ _⟩

end Go.Proofs.Qxb6601790aDoor
