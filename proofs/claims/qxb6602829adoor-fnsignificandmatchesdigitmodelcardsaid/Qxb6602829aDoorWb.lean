/-
  zzScaleAgrees, significand.
-/
import Derived.Test.Qxb6602829aDoorWa
namespace Go.Proofs.Qxb6602829aDoor
open Go.RowKit Pl

/-- What significand hands back. -/
def SigPost (I F X : List UInt8) (ne : Bool) (e : Ending) : Prop :=
  ∃ H T adj E, Sg I F H T adj ∧ Exp X E ∧ e = .returned (.tuple #[.string ⟨H.toArray⟩, .string ⟨T.toArray⟩, .int .i64 ((if ne then -(E : Int) else E) + adj)])
theorem sigPost_mk {I F X H T : List UInt8} {ne : Bool} {adj : Int} {E : Nat} {e : Ending} {z : Int} (h1 : Sg I F H T adj) (h2 : Exp X E) (h3 : e = .returned (.tuple #[.string ⟨H.toArray⟩, .string ⟨T.toArray⟩, .int .i64 z])) (h4 : z = (if ne then -(E : Int) else E) + adj) : SigPost I F X ne e :=
  ⟨H, T, adj, E, h1, h2, by rw [h3, h4]⟩

theorem trimLeft_le (l : List UInt8) : (Lib.trimLeftB l 48).length ≤ l.length := by obtain ⟨p, h, _⟩ := left_split l; conv => rhs; rw [h]
                                                                                    rw [List.length_append]; omega
theorem trimRight_le (l : List UInt8) : (Lib.trimRightB l 48).length ≤ l.length := by obtain ⟨p, h, _⟩ := right_split l; conv => rhs; rw [h]
                                                                                      rw [List.length_append]; omega

set_option maxHeartbeats 2000000 in
set_option maxRecDepth 100000 in
theorem significand_any (n ne : Bool) (I F X : ByteArray) (w : World) (hI : I.size ≤ 1048576) (hF : F.size ≤ 1048576) (hX : X.size ≤ 1048576) (hd : allD X.data.toList = true) :
    Calls Tryd.prog 10 #[.agg #[.bool n, .string I, .string F, .bool ne, .string X]] w fun e w' => SigPost I.data.toList F.data.toList X.data.toList ne e ∧ Below w.heap.size w w' := by
  have h11 := fun (s : ByteArray) (wx : World) => Any.strings_TrimLeft_one Tryd.lays161 s 48 (by decide) wx
  have h12 := fun (s : ByteArray) (wx : World) (hs : s.size ≤ 1048576) => Any.strings_TrimRight_one Tryd.lays162 s 48 (by decide) wx (by omega)
  have H11 := hide h11
  have H12 := hide h12
  have H13 := hide (fun wx => exponentValue_any n ne I F X wx hX hd)
  clear h11 h12 hd
  have hLI := trimLeft_le I.data.toList
  have hRF := trimRight_le F.data.toList
  rw [← Lib.size_eq] at hLI hRF
  go_enter Tryd.func10, Tryd.ntmps10
  go_wp2_with fail
  refine (H11.out I _).mono ?_
  rintro e w1 ⟨rfl, rfl⟩
  go_wp2_with fail
  refine (H12.out F _ hF).mono ?_
  rintro e w1 ⟨rfl, rfl⟩
  go_wp2_with fail
  refine (H13.out _).mono ?_
  rintro e w2 ⟨⟨E, hE, rfl⟩, hb⟩
  obtain ⟨SE, hSE⟩ : ∃ SE : Int, (if ne then -(E : Int) else E) = SE := ⟨_, rfl⟩
  rw [hSE]
  have hSE0 : -18014398509481983 ≤ SE := by have := hE.le; rw [← hSE]; split <;> omega
  have hSE1 : SE ≤ 18014398509481983 := by have := hE.le; rw [← hSE]; split <;> omega
  have HSE := hide hSE
  have HE := hide hE
  have HB := hide (((Below.refl w.heap.size w).alloc (Nat.le_refl _) _).trans (hb.mono (by simp)))
  clear hE hb hSE
  have HG1 := hide (sg_int I.data.toList F.data.toList)
  have HG2 := hide (sg_frac I.data.toList F.data.toList)
  have HG3 := hide (sg_both I.data.toList F.data.toList)
  have hRW := trimRight_le (Lib.trimLeftB I.data.toList 48)
  have hLT := trimLeft_le (Lib.trimRightB F.data.toList 48)
  generalize Lib.trimLeftB I.data.toList 48 = W at *
  generalize Lib.trimRightB F.data.toList 48 = T at *
  cases T with
  | nil =>
    go_wp2_with fail
    refine (H12.out ⟨W.toArray⟩ _ (by rw [Lib.size_mk]; omega)).mono ?_
    rintro e w3 ⟨rfl, rfl⟩
    go_wp2_with fail
    go_ret3
    exact ⟨sigPost_mk (HG1.out trivial) HE.out rfl (by rw [HSE.out]), HB.out⟩
  | cons c T =>
    have hTl : T.length ≤ 1048575 := by rw [List.length_cons] at hRF; omega
    cases W with
    | nil =>
      go_wp2_with fail
      refine (H11.out ⟨(c :: T).toArray⟩ _).mono ?_
      rintro e w3 ⟨rfl, rfl⟩
      go_wp2_with fail
      go_ret3
      exact ⟨sigPost_mk (HG2.out (by simp) trivial) HE.out rfl (by rw [HSE.out]; simp; omega), HB.out⟩
    | cons d W =>
      go_wp2_with fail
      go_ret3
      exact ⟨sigPost_mk (HG3.out (by simp) (by simp)) HE.out rfl (by rw [HSE.out]; simp; omega), HB.out⟩

set_option maxHeartbeats 2000000 in
set_option maxRecDepth 100000 in
/-- ZZNumberSignificand. -/
theorem zzSig_any (n ne : Bool) (I F X : ByteArray) (w : World) (hI : I.size ≤ 1048576) (hF : F.size ≤ 1048576) (hX : X.size ≤ 1048576) (hd : allD X.data.toList = true) :
    Calls Tryd.prog 6 #[.bool n, .string I, .string F, .bool ne, .string X] w fun e w' => SigPost I.data.toList F.data.toList X.data.toList ne e ∧ Below w.heap.size w w' := by
  have H10 := hide (fun wx => significand_any n ne I F X wx hI hF hX hd)
  clear hd
  go_enter Tryd.func6, Tryd.ntmps6
  go_wp2_with fail
  refine (H10.out _).mono ?_
  rintro e w2 ⟨⟨H, T, adj, E, h1, h2, rfl⟩, hb⟩
  have HP := hide (show SigPost I.data.toList F.data.toList X.data.toList ne _ from ⟨H, T, adj, E, h1, h2, rfl⟩)
  have HB := hide (((Below.refl w.heap.size w).alloc (Nat.le_refl _) _).trans (hb.mono (by simp)))
  clear h1 h2 hb
  generalize (if ne then -(E : Int) else E) + adj = SE at *
  go_wp2_with fail
  go_ret3
  exact ⟨HP.out, HB.out⟩

/-- zzScaleAgrees. -/
def agrees (sc ev : Int) (big ne : Bool) (adj : Int) : Bool :=
  if big then (if ne then decide (sc ≤ -1125899905794048) else decide (1125899905794048 ≤ sc)) else (sc == (if ne then -ev else ev) + adj)
set_option maxHeartbeats 1000000 in
set_option maxRecDepth 100000 in
theorem scaleAgrees_any (sc ev adj : Int) (big ne : Bool) (w : World) (he0 : 0 ≤ ev) (he1 : ev ≤ 1125899906842624) (ha0 : -2000000 ≤ adj) (ha1 : adj ≤ 2000000) :
    Calls Tryd.prog 9 #[.int .i64 sc, .int .i64 ev, .bool big, .bool ne, .int .i64 adj] w fun e w' => e = .returned (.bool (agrees sc ev big ne adj)) ∧ w' = w := by
  cases big <;> cases ne
  all_goals
    go_enter Tryd.func9, Tryd.ntmps9
    go_wp2
    go_ret
    exact ⟨rfl, rfl⟩

end Go.Proofs.Qxb6602829aDoor
