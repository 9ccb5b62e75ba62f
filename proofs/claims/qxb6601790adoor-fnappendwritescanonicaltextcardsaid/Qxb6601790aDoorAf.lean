/-
  The laws of the sixth and the ninth function.
-/
import Derived.Test.Qxb6601790aDoorAe
namespace Go.Proofs.Qxb6601790aDoor
open Go.RowKit Num
open Go.Lib (decDigits)

/-- What Append asks of a number, paid by a number that was read. -/
structure Fits (n : Nm) : Prop where
  dig : n.ip.length + n.fp.length ≤ 4194304 - 64
  big : n.bp.length ≤ 4194304
  bigD : allD (dropSign n.bp) = true
  lo : -9223372036854775807 ≤ n.pt
  hi : n.pt ≤ 9223372036854775807
theorem fits_zero : Fits .zero := ⟨by decide, by decide, rfl, by decide, by decide⟩
theorem Fit.fits {L : Nat} {n : Nm} (h : Fit L n) (hL : L ≤ 2097300) : Fits n := ⟨by have := h.dig; omega, by have := h.big; omega, h.bigD, h.lo, h.hi⟩
theorem append_nil (n : Nm) (w : World) (htab : Tab powName w) (h : Fits n) : Calls Tryd.prog 20 #[nmV n, .slice none 0 0] w fun e w' => ∃ v', e = .returned v' ∧ Txt w' v' (text n) ∧ Below w.heap.size w w' := by
  refine (Append_any n (.slice none 0 0) [] w (Src.nil w _) htab (by simp) h.dig h.big h.bigD (by have := h.lo; omega) h.hi (fun _ => h.lo)).mono ?_
  rintro e w' ⟨v', rfl, hs, hk⟩
  exact ⟨v', rfl, hs.txt, hk.bel⟩
/-- A number that was read out of a text, its text read again: the same text. -/
theorem fixed {l : List UInt8} {n : Nm} (h : readB l = (n, true)) (hl : l.length ≤ 1048576) : Fits n ∧ (text n).length ≤ 2097300 ∧ ∃ m, readB (text n) = (m, true) ∧ text m = text n ∧ Fits m := by
  rcases read_good h (by decide) hl with rfl | ⟨hg, hf⟩
  · exact ⟨fits_zero, by rw [text_zero]; decide, .zero, read_zero, rfl, fits_zero⟩
  · have hlen := text_len n hf
    obtain ⟨m, h1, h2⟩ := text_back hg
    refine ⟨Fit.fits hf (by decide), hlen, m, h1, h2, ?_⟩
    rcases read_good h1 (show 2097300 ≤ 4194304 by decide) hlen with rfl | ⟨_, hf2⟩
    · exact fits_zero
    · exact Fit.fits hf2 (Nat.le_refl _)

set_option maxHeartbeats 2000000 in
set_option maxRecDepth 100000 in
theorem law6 (s : ByteArray) (w : World) (htab : Tab powName w) (hs : s.size ≤ maxLen) :
    Calls Tryd.prog 6 #[.string s] w fun e w' => e = .returned (.bool true) ∧ Below w.heap.size w w' := by
  unfold maxLen at hs
  by_cases h1 : s.size ≤ 1048576
  · have H17 := hide (fun wx ht => ZZReadStrDecimal_any s wx ht (by omega))
    obtain ⟨N, ok, hq⟩ : ∃ N ok, readB s.data.toList = (N, ok) := ⟨_, _, rfl⟩
    rw [hq] at H17
    cases ok with
    | false =>
      unfold rdV nmV at H17
      clear hq
      obtain ⟨n1, n2, n3, n4, n5⟩ := N
      go_enter Tryd.func6, Tryd.ntmps6
      go_wp2_with (go_at_call 19; go_in)
      refine (H17.out _ htab).mono ?_
      rintro e w1 ⟨rfl, hb1⟩
      have HB1 := hide hb1
      clear hb1
      go_wp2
      go_ret
      exact ⟨rfl, HB1.out.alloc HB1.out.size _⟩
    | true =>
      obtain ⟨hf, hlen, M, hm1, hm2, hf2⟩ := fixed hq (by rw [len_data]; exact h1)
      have H17b := hide (fun wx ht => ZZReadStrDecimal_any ⟨(text N).toArray⟩ wx ht (by rw [size_mk]; omega))
      rw [data_mk, hm1] at H17b
      have H20 := hide (fun wx ht => append_nil N wx ht hf)
      have H20b := hide (fun wx ht => append_nil M wx ht hf2)
      rw [hm2] at H20b
      have hne := text_ne N
      have H21 := hide (fun u v wx h1 h2 => zzEqualBytes_any u v (text N) wx h1 h2 (by omega))
      clear hq hm1 hm2 hf hf2
      generalize text N = T at *
      obtain ⟨n1, n2, n3, n4, n5⟩ := N
      obtain ⟨m1, m2, m3, m4, m5⟩ := M
      unfold rdV nmV at H17 H17b
      unfold nmV at H20 H20b
      go_enter Tryd.func6, Tryd.ntmps6
      go_wp2_with (go_at_call 19; go_in)
      refine (H17.out _ htab).mono ?_
      rintro e w1 ⟨rfl, hb1⟩
      have HT1 := hide (htab.below hb1)
      have HB1 := hide hb1
      clear hb1 H17
      go_wp2_with fail
      refine (H20.out _ (HT1.out.below ((Below.refl _ _).alloc (Nat.le_refl _) _))).mono ?_
      rintro e w2 ⟨v2, rfl, ht2, hb2⟩
      have HB2 := hide ((HB1.out.alloc HB1.out.size _).trans (hb2.mono (by have := HB1.out.size; simp; omega)))
      have HT2 := hide (htab.below HB2.out)
      have hst := ht2.toStr hne
      have HX2 := hide ht2
      clear hb2 ht2 HT1 HB1 H20
      go_wp2_with fail
      refine (H17b.out _ HT2.out).mono ?_
      rintro e w3 ⟨rfl, hb3⟩
      have HX3 := hide (HX2.out.below hb3)
      have HB3 := hide (HB2.out.trans (hb3.mono HB2.out.size))
      have HT3 := hide (htab.below HB3.out)
      clear hb3 HX2 HB2 HT2 H17b hst
      go_wp2_with fail
      refine (H20b.out _ (HT3.out.below ((Below.refl _ _).alloc (Nat.le_refl _) _))).mono ?_
      rintro e w4 ⟨v4, rfl, ht4, hb4⟩
      have HX4 := hide ((HX3.out.below ((Below.refl _ _).alloc (Nat.le_refl _) _)).below hb4)
      have HY4 := hide ht4
      have HB4 := hide ((HB3.out.alloc HB3.out.size _).trans (hb4.mono (by have := HB3.out.size; simp; omega)))
      clear hb4 ht4 HX3 HB3 HT3 H20b
      go_wp2_with fail
      refine (H21.out _ _ _ HY4.out HX4.out).mono ?_
      rintro e w5 ⟨rfl, hb5⟩
      have HB5 := hide (HB4.out.trans (hb5.mono HB4.out.size))
      clear hb5
      go_wp2
      go_ret
      exact ⟨rfl, HB5.out⟩
  · go_enter Tryd.func6, Tryd.ntmps6
    go_wp2
    go_ret
    exact ⟨rfl, Below.refl _ _⟩

end Go.Proofs.Qxb6601790aDoor
