/-
  FnCutBearerTakesOffEverySpelling: the row, and its tied card.
-/
import Derived.Test.Qxb6601828aDoorPc
import Derived.Test.Qxb6601828aDoorCfb
import Derived.Test.Qxb6601828aDoorWe
import Derived.OpenShut
import Derived.Lay
import Derived.SevenTiedAt
namespace Go.Proofs.Qxb6601828aDoor
open Go.ChangeShapes Go.WideShapes Go.ChangeAt Go.RowKit
open Go.ChangeMaps (open_string shut_string)

set_option maxRecDepth 100000 in
theorem lifted4 (os : Os) (started : os.Started) (H : Type) (enc : TypeId × Value → H) :
    ReturnsInHanded {} Tryd.checked os 4 .any (fun w args => (Rows.fnCutBearerTakesOffEverySpellingSpec.pre enc Tryd.prog Tryd.f4 [] false w args ∧ laidMetH Tryd.prog Rows.fnCutBearerTakesOffEverySpellingRow.laid w) ∧ sizedMet enc Tryd.prog Tryd.f4 (OpenSpec.ofChange Rows.fnCutBearerTakesOffEverySpellingSpec) false w args)
      (Rows.fnCutBearerTakesOffEverySpellingSpec.post enc Tryd.prog Tryd.f4 false true false false) := by
  refine returnsInHanded_of_change_and (C := Tryd.checked) (X := fun w _ => laidMetH Tryd.prog Rows.fnCutBearerTakesOffEverySpellingRow.laid w) (fun _ _ _ hh h => h.of_heap hh) own started (by kernel_rfl) Tryd.func4
    (ChangeSpec.witness_shaped (enc := enc) (C := Tryd.checked) (os := os) (X := fun w _ => laidMetH Tryd.prog Rows.fnCutBearerTakesOffEverySpellingRow.laid w) false (World.laidAll Tryd.prog os Rows.fnCutBearerTakesOffEverySpellingRow.laid) #[.string ByteArray.empty, .int .u8 0, .int .i64 0] 8 (World.laidAll_os _ _ _)
      (World.shaped_of_ZipB (by kernel_rfl) (by kernel_rfl)) (by kernel_rfl) (by kernel_rfl) (by kernel_rfl)
      (by rw [MakeChecks.laidMetH_plain _ _ _ (by kernel_rfl)]; exact laidMet_laidAll _ (by kernel_rfl) (by kernel_rfl))) ?_
  intro W base args ds gs before hval0 hW _ _ hL _
  have hval : ∀ (j : Nat) t v, Tryd.f4.params[j]? = some t → args[j]? = some v → Value.okWide Tryd.prog W .any base t v := hval0
  have hW' := hW
  obtain ⟨p, q, hA0, hV, rfl, _, _⟩ := hW
  have hA : DataW.TrodAll enc Tryd.prog W 0 (fun _ => true) true Tryd.f4.params.toList args.toList ds p := hA0
  rw [Tryd.params4] at hA hval
  obtain ⟨v0, v1, v2, d0, d1, d2, p0, p1, p2, rfl, rfl, rfl, h0, h1, h2⟩ := trodAll_three hA
  obtain ⟨rfl, rfl⟩ := trodVars_none hV
  obtain ⟨s, rfl, rfl, rfl, hs⟩ := open_string Tryd.underlying9 (hval 0 9 v0 rfl rfl) h0
  obtain ⟨m, rfl, rfl, rfl, wm⟩ := open_int Tryd.underlying5 (hval 1 5 v1 rfl rfl) h1
  obtain ⟨n, rfl, rfl, rfl, wn⟩ := open_int Tryd.underlying3 (hval 2 3 v2 rfl rfl) h2
  have hm := bounds_u8 wm
  simp only [List.append_nil] at hW'
  have hF := folds_of (tab_of_laid hL)
  refine (law4 s m n W hs hF.1 hF.2 hm.1 hm.2).mono fun e W' ⟨he, hb⟩ => ?_
  subst he
  exact ⟨_, rfl, _, _, _, [], [], [], hW', trodAll_mk1 (shut_bool Tryd.underlying4 _), trodAll_mk3 (shut_string Tryd.underlying9 hs) (shut_int Tryd.underlying5 wm) (shut_int Tryd.underlying3 wn), rfl, hb.frame _, fun h => by cases h⟩

theorem row4 : Rows.FnCutBearerTakesOffEverySpellingSaid :=
  OpenClaim.holds_of_wide 4 Tryd.f4 rfl rfl rfl rfl rfl rfl rfl ⟨rfl, rfl, rfl, rfl, rfl⟩ rfl rfl rfl rfl rfl Cf4.fn Tryd.func4 Cf4.closed
    Cf4.inst Cf4.wrap (fun os started H enc _ => lifted4 os started H enc)

/-- The card. -/
theorem fnCutBearerTakesOffEverySpelling_card : Rows.FnCutBearerTakesOffEverySpellingCardSaid :=
  Claim7.holds_tied_plain_at .later [] Rows.fnCutBearerTakesOffEverySpellingCard.laidKinds true Rows.fnCutBearerTakesOffEverySpellingCard.stood.harness false
    row4 (fun _ h => by cases h) Cf4.wft (fun _ h => by cases h) fnCutBearerTakesOffEverySpelling_row_tie rfl ⟨rfl, rfl⟩ Head.mainIs_card rfl
    (fun f fn hf hfn => by
      obtain rfl : f = 4 := Option.some.inj (Cf4.fn.symm.trans hf) |>.symm
      obtain rfl : fn = Tryd.f4 := (Option.some.inj (Tryd.func4.symm.trans hfn)).symm
      exact ⟨Head.looks_no, fun j t ht => by
        rw [Tryd.params4] at ht
        have hm : t ∈ [9, 5, 3] := by simpa using Array.mem_of_getElem? ht
        have hall : ([9, 5, 3].all fun u => !Tryd.prog.wantsStandIn u) = true := by kernel_rfl
        exact (show Tryd.prog.wantsStandIn t = false by simpa using List.all_eq_true.1 hall t hm)⟩)
    Cf4.goes

end Go.Proofs.Qxb6601828aDoor
