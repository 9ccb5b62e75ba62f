/-
  FnCutBearerMatchesPrefixModel: the row, and its tied card.
-/
import Derived.Test.Qxb6601828aDoorPc
import Derived.Test.Qxb6601828aDoorCfa
import Derived.OpenShut
import Derived.Lay
import Derived.SevenTiedAt
namespace Go.Proofs.Qxb6601828aDoor
open Go.ChangeShapes Go.WideShapes Go.ChangeAt Go.RowKit
open Go.ChangeMaps (open_string shut_string)

set_option maxRecDepth 100000 in
theorem lifted3 (os : Os) (started : os.Started) (H : Type) (enc : TypeId × Value → H) :
    ReturnsInHanded {} Tryd.checked os 3 .any (fun w args => (Rows.fnCutBearerMatchesPrefixModelSpec.pre enc Tryd.prog Tryd.f3 [] false w args ∧ laidMetH Tryd.prog Rows.fnCutBearerMatchesPrefixModelRow.laid w) ∧ sizedMet enc Tryd.prog Tryd.f3 (OpenSpec.ofChange Rows.fnCutBearerMatchesPrefixModelSpec) false w args)
      (Rows.fnCutBearerMatchesPrefixModelSpec.post enc Tryd.prog Tryd.f3 false true false false) := by
  refine returnsInHanded_of_change_and (C := Tryd.checked) (X := fun w _ => laidMetH Tryd.prog Rows.fnCutBearerMatchesPrefixModelRow.laid w) (fun _ _ _ hh h => h.of_heap hh) own started (by kernel_rfl) Tryd.func3
    (ChangeSpec.witness_shaped (enc := enc) (C := Tryd.checked) (os := os) (X := fun w _ => laidMetH Tryd.prog Rows.fnCutBearerMatchesPrefixModelRow.laid w) false (World.laidAll Tryd.prog os Rows.fnCutBearerMatchesPrefixModelRow.laid) #[.string ByteArray.empty] 8 (World.laidAll_os _ _ _)
      (World.shaped_of_ZipB (by kernel_rfl) (by kernel_rfl)) (by kernel_rfl) (by kernel_rfl) (by kernel_rfl)
      (by rw [MakeChecks.laidMetH_plain _ _ _ (by kernel_rfl)]; exact laidMet_laidAll _ (by kernel_rfl) (by kernel_rfl))) ?_
  intro W base args ds gs before hval0 hW _ _ hL _
  have hval : ∀ (j : Nat) t v, Tryd.f3.params[j]? = some t → args[j]? = some v → Value.okWide Tryd.prog W .any base t v := hval0
  have hW' := hW
  obtain ⟨p, q, hA0, hV, rfl, _, _⟩ := hW
  have hA : DataW.TrodAll enc Tryd.prog W 0 (fun _ => true) true Tryd.f3.params.toList args.toList ds p := hA0
  rw [Tryd.params3] at hA hval
  obtain ⟨v0, d0, rfl, rfl, h0⟩ := trodAll_one hA
  obtain ⟨rfl, rfl⟩ := trodVars_none hV
  obtain ⟨s, rfl, rfl, rfl, hs⟩ := open_string Tryd.underlying9 (hval 0 9 v0 rfl rfl) h0
  simp only [List.append_nil] at hW'
  have hF := folds_of (tab_of_laid hL)
  refine (law3 s W hs hF.1 hF.2).mono fun e W' ⟨he, hb⟩ => ?_
  subst he
  exact ⟨_, rfl, _, _, _, [], [], [], hW', trodAll_mk1 (shut_bool Tryd.underlying4 _), trodAll_mk1 (shut_string Tryd.underlying9 hs), rfl, hb.frame _, fun h => by cases h⟩

theorem row3 : Rows.FnCutBearerMatchesPrefixModelSaid :=
  OpenClaim.holds_of_wide 3 Tryd.f3 rfl rfl rfl rfl rfl rfl rfl ⟨rfl, rfl, rfl, rfl, rfl⟩ rfl rfl rfl rfl rfl Cf3.fn Tryd.func3 Cf3.closed
    Cf3.inst Cf3.wrap (fun os started H enc _ => lifted3 os started H enc)

/-- The card. -/
theorem fnCutBearerMatchesPrefixModel_card : Rows.FnCutBearerMatchesPrefixModelCardSaid :=
  Claim7.holds_tied_plain_at .later [] Rows.fnCutBearerMatchesPrefixModelCard.laidKinds true Rows.fnCutBearerMatchesPrefixModelCard.stood.harness false
    row3 (fun _ h => by cases h) Cf3.wft (fun _ h => by cases h) fnCutBearerMatchesPrefixModel_row_tie rfl ⟨rfl, rfl⟩ Head.mainIs_card rfl
    (fun f fn hf hfn => by
      obtain rfl : f = 3 := Option.some.inj (Cf3.fn.symm.trans hf) |>.symm
      obtain rfl : fn = Tryd.f3 := (Option.some.inj (Tryd.func3.symm.trans hfn)).symm
      exact ⟨Head.looks_no, fun j t ht => by
        rw [Tryd.params3] at ht
        have hm : t ∈ [9] := by simpa using Array.mem_of_getElem? ht
        have hall : ([9].all fun u => !Tryd.prog.wantsStandIn u) = true := by kernel_rfl
        exact (show Tryd.prog.wantsStandIn t = false by simpa using List.all_eq_true.1 hall t hm)⟩)
    Cf3.goes

end Go.Proofs.Qxb6601828aDoor
