/-
  FnSignificandMatchesDigitModel: the row, and its tied card.
-/
import Derived.Test.Qxb6602829aDoorTie
import Derived.Test.Qxb6602829aDoorCards
import Derived.Test.Qxb6602829aDoorCfa
import Derived.Test.Qxb6602829aDoorWc
import Derived.Test.Qxb6602829aDoorWd
import Derived.ProofKit
import Derived.OpenShut
import Derived.Lay
import Derived.SevenTiedAt
namespace Go.Proofs.Qxb6602829aDoor
open Go.ChangeShapes Go.WideShapes Go.ChangeAt Go.RowKit Pl
open Go.ChangeMaps (open_string shut_string)

theorem own : ownKnob Tryd.prog.godebug = none := by kernel_rfl

/-- The law returns true. -/
theorem law3 (n ne : Bool) (I F X : ByteArray) (w : World) (h1 : I.size ≤ maxLen) (h2 : F.size ≤ maxLen) (h3 : X.size ≤ maxLen) :
    Calls Tryd.prog 3 #[.bool n, .string I, .string F, .bool ne, .string X] w fun e w' => e = .returned (.bool true) ∧ Below w.heap.size w w' := by
  unfold maxLen at h1 h2 h3
  by_cases hs : I.size + F.size + X.size ≤ 1048576
  · cases hd : allD I.data.toList && allD F.data.toList && allD X.data.toList with
    | false => exact (law_nodigits n ne I F X w hs hd).mono fun e w' ⟨he, hw⟩ => ⟨he, hw ▸ Below.refl _ _⟩
    | true =>
      simp only [Bool.and_eq_true] at hd
      exact law_main n ne I F X w hs hd.1.1 hd.1.2 hd.2
  · exact (law_long n ne I F X w h1 h2 h3 (by omega)).mono fun e w' ⟨he, hw⟩ => ⟨he, hw ▸ Below.refl _ _⟩

set_option maxRecDepth 100000 in
theorem lifted3 (os : Os) (started : os.Started) (H : Type) (enc : TypeId × Value → H) :
    ReturnsInHanded {} Tryd.checked os 3 .any (fun w args => (Rows.fnSignificandMatchesDigitModelSpec.pre enc Tryd.prog Tryd.f3 [] false w args ∧ laidMetH Tryd.prog Rows.fnSignificandMatchesDigitModelRow.laid w) ∧ sizedMet enc Tryd.prog Tryd.f3 (OpenSpec.ofChange Rows.fnSignificandMatchesDigitModelSpec) false w args)
      (Rows.fnSignificandMatchesDigitModelSpec.post enc Tryd.prog Tryd.f3 false true false false) := by
  refine returnsInHanded_of_change_and (C := Tryd.checked) (X := fun w _ => laidMetH Tryd.prog Rows.fnSignificandMatchesDigitModelRow.laid w) (fun _ _ _ hh h => h.of_heap hh) own started (by kernel_rfl) Tryd.func3
    (ChangeSpec.witness_shaped (enc := enc) (C := Tryd.checked) (os := os) (X := fun w _ => laidMetH Tryd.prog Rows.fnSignificandMatchesDigitModelRow.laid w) false (World.laidAll Tryd.prog os Rows.fnSignificandMatchesDigitModelRow.laid) #[.bool false, .string ByteArray.empty, .string ByteArray.empty, .bool false, .string ByteArray.empty] 8 (World.laidAll_os _ _ _)
      (World.shaped_of_ZipB (by kernel_rfl) (by kernel_rfl)) (by kernel_rfl) (by kernel_rfl) (by kernel_rfl)
      (by rw [MakeChecks.laidMetH_plain _ _ _ (by kernel_rfl)]; exact laidMet_laidAll _ (by kernel_rfl) (by kernel_rfl))) ?_
  intro W base args ds gs before hval0 hW _ _ hL _
  have hval : ∀ (j : Nat) t v, Tryd.f3.params[j]? = some t → args[j]? = some v → Value.okWide Tryd.prog W .any base t v := hval0
  have hW' := hW
  obtain ⟨p, q, hA0, hV, rfl, _, _⟩ := hW
  have hA : DataW.TrodAll enc Tryd.prog W 0 (fun _ => true) true Tryd.f3.params.toList args.toList ds p := hA0
  rw [Tryd.params3] at hA hval
  obtain ⟨v0, vs0, d0, ds0, p0, q0, hargs, rfl, rfl, h0, r0⟩ := trodAll_cons hA
  obtain ⟨v1, vs1, d1, ds1, p1, q1, rfl, rfl, rfl, h1, r1⟩ := trodAll_cons r0
  obtain ⟨v2, vs2, d2, ds2, p2, q2, rfl, rfl, rfl, h2, r2⟩ := trodAll_cons r1
  obtain ⟨v3, vs3, d3, ds3, p3, q3, rfl, rfl, rfl, h3, r3⟩ := trodAll_cons r2
  obtain ⟨v4, vs4, d4, ds4, p4, q4, rfl, rfl, rfl, h4, r4⟩ := trodAll_cons r3
  obtain ⟨rfl, rfl, rfl⟩ := trodAll_nil r4
  obtain rfl : args = #[v0, v1, v2, v3, v4] := by cases args; simp_all
  obtain ⟨rfl, rfl⟩ := trodVars_none hV
  obtain ⟨a0, rfl, rfl, rfl⟩ := open_bool Tryd.underlying4 (hval 0 4 v0 rfl rfl) h0
  obtain ⟨a1, rfl, rfl, rfl, w1⟩ := open_string Tryd.underlying9 (hval 1 9 v1 rfl rfl) h1
  obtain ⟨a2, rfl, rfl, rfl, w2⟩ := open_string Tryd.underlying9 (hval 2 9 v2 rfl rfl) h2
  obtain ⟨a3, rfl, rfl, rfl⟩ := open_bool Tryd.underlying4 (hval 3 4 v3 rfl rfl) h3
  obtain ⟨a4, rfl, rfl, rfl, w4⟩ := open_string Tryd.underlying9 (hval 4 9 v4 rfl rfl) h4
  clear hA0 hval0
  simp only [List.append_nil] at hW'
  refine (law3 a0 a3 a1 a2 a4 W w1 w2 w4).mono fun e W' ⟨he, hb⟩ => ?_
  subst he
  exact ⟨_, rfl, _, _, _, [], [], [], hW', trodAll_mk1 (shut_bool Tryd.underlying4 _), (trodAll_cons_mk (shut_bool Tryd.underlying4 _) (trodAll_cons_mk (shut_string Tryd.underlying9 w1) (trodAll_cons_mk (shut_string Tryd.underlying9 w2) (trodAll_cons_mk (shut_bool Tryd.underlying4 _) (trodAll_cons_mk (shut_string Tryd.underlying9 w4) trodAll_mk0))))), rfl, hb.frame _, fun h => by cases h⟩

theorem row3 : Rows.FnSignificandMatchesDigitModelSaid :=
  OpenClaim.holds_of_wide 3 Tryd.f3 rfl rfl rfl rfl rfl rfl rfl ⟨rfl, rfl, rfl, rfl, rfl⟩ rfl rfl rfl rfl rfl Cf3.fn Tryd.func3 Cf3.closed
    Cf3.inst Cf3.wrap (fun os started H enc _ => lifted3 os started H enc)

/-- The card. -/
theorem fnSignificandMatchesDigitModel_card : Rows.FnSignificandMatchesDigitModelCardSaid :=
  Claim7.holds_tied_plain_at .later [] Rows.fnSignificandMatchesDigitModelCard.laidKinds true Rows.fnSignificandMatchesDigitModelCard.stood.harness false
    row3 (fun _ h => by cases h) Cf3.wft (fun _ h => by cases h) fnSignificandMatchesDigitModel_row_tie rfl ⟨rfl, rfl⟩ Head.mainIs_card rfl
    (fun f fn hf hfn => by
      obtain rfl : f = 3 := Option.some.inj (Cf3.fn.symm.trans hf) |>.symm
      obtain rfl : fn = Tryd.f3 := (Option.some.inj (Tryd.func3.symm.trans hfn)).symm
      exact ⟨Head.looks_no, fun j t ht => by
        rw [Tryd.params3] at ht
        have hm : t ∈ [4, 9, 9, 4, 9] := by simpa using Array.mem_of_getElem? ht
        have hall : ([4, 9, 9, 4, 9].all fun u => !Tryd.prog.wantsStandIn u) = true := by kernel_rfl
        exact (show Tryd.prog.wantsStandIn t = false by simpa using List.all_eq_true.1 hall t hm)⟩)
    Cf3.goes

end Go.Proofs.Qxb6602829aDoor
