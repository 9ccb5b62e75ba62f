/-
  FnReadStrDecimalCanonicalTextIsFixedPoint: the row, and its tied card.
-/
import Derived.Test.Qxb6601790aDoorTie
import Derived.Test.Qxb6601790aDoorCards
import Derived.Test.Qxb6601790aDoorPc
import Derived.Test.Qxb6601790aDoorAf
import Derived.Test.Qxb6601790aDoorCfd
import Derived.SevenTiedAt
namespace Go.Proofs.Qxb6601790aDoor
open Go.ChangeShapes Go.WideShapes Go.ChangeAt Go.RowKit
open Go.ChangeMaps (open_string shut_string)

set_option maxRecDepth 100000 in
theorem lifted4 (os : Os) (started : os.Started) (H : Type) (enc : TypeId × Value → H) :
    ReturnsInHanded {} Tryd.checked os 6 .any (fun w args => (Rows.fnReadStrDecimalCanonicalTextIsFixedPointSpec.pre enc Tryd.prog Tryd.f6 [] false w args ∧ laidMetH Tryd.prog Rows.fnReadStrDecimalCanonicalTextIsFixedPointRow.laid w) ∧ sizedMet enc Tryd.prog Tryd.f6 (OpenSpec.ofChange Rows.fnReadStrDecimalCanonicalTextIsFixedPointSpec) false w args)
      (Rows.fnReadStrDecimalCanonicalTextIsFixedPointSpec.post enc Tryd.prog Tryd.f6 false true false false) := by
  refine returnsInHanded_of_change_and (C := Tryd.checked) (X := fun w _ => laidMetH Tryd.prog Rows.fnReadStrDecimalCanonicalTextIsFixedPointRow.laid w) (fun _ _ _ hh h => h.of_heap hh) own started (by kernel_rfl) Tryd.func6
    (ChangeSpec.witness_shaped (enc := enc) (C := Tryd.checked) (os := os) (X := fun w _ => laidMetH Tryd.prog Rows.fnReadStrDecimalCanonicalTextIsFixedPointRow.laid w) false (World.laidAll Tryd.prog os Rows.fnReadStrDecimalCanonicalTextIsFixedPointRow.laid) #[.string ByteArray.empty] 8 (World.laidAll_os _ _ _)
      (World.shaped_of_ZipB (by kernel_rfl) (by kernel_rfl)) (by kernel_rfl) (by kernel_rfl) (by kernel_rfl)
      (by rw [MakeChecks.laidMetH_plain _ _ _ (by kernel_rfl)]; exact laidMet_laidAll _ (by kernel_rfl) (by kernel_rfl))) ?_
  intro W base args ds gs before hval0 hW _ _ hL _
  have hval : ∀ (j : Nat) t v, Tryd.f6.params[j]? = some t → args[j]? = some v → Value.okWide Tryd.prog W .any base t v := hval0
  have hW' := hW
  obtain ⟨p, q, hA0, hV, rfl, _, _⟩ := hW
  have hA : DataW.TrodAll enc Tryd.prog W 0 (fun _ => true) true Tryd.f6.params.toList args.toList ds p := hA0
  rw [Tryd.params6] at hA hval
  obtain ⟨v0, d0, rfl, rfl, h0⟩ := trodAll_one hA
  obtain ⟨rfl, rfl⟩ := trodVars_none hV
  obtain ⟨s, rfl, rfl, rfl, hs⟩ := open_string Tryd.underlying9 (hval 0 9 v0 rfl rfl) h0
  simp only [List.append_nil] at hW'
  refine (law6 s W (tab_of_laid hL) hs).mono fun e W' ⟨he, hb⟩ => ?_
  subst he
  exact ⟨_, rfl, _, _, _, [], [], [], hW', trodAll_mk1 (shut_bool Tryd.underlying4 _), trodAll_mk1 (shut_string Tryd.underlying9 hs), rfl, hb.frame _, fun h => by cases h⟩

theorem row4 : Rows.FnReadStrDecimalCanonicalTextIsFixedPointSaid :=
  OpenClaim.holds_of_wide 6 Tryd.f6 rfl rfl rfl rfl rfl rfl rfl ⟨rfl, rfl, rfl, rfl, rfl⟩ rfl rfl rfl rfl rfl Cf6.fn Tryd.func6 Cf6.closed
    Cf6.inst Cf6.wrap (fun os started H enc _ => lifted4 os started H enc)

/-- The card. -/
theorem fnReadStrDecimalCanonicalTextIsFixedPoint_card : Rows.FnReadStrDecimalCanonicalTextIsFixedPointCardSaid :=
  Claim7.holds_tied_plain_at .later [] [.data, .data, .data, .data, .pinned] true Rows.fnReadStrDecimalCanonicalTextIsFixedPointCard.stood.harness false
    row4 (fun _ h => by cases h) Cf6.wft (fun _ h => by cases h) fnReadStrDecimalCanonicalTextIsFixedPoint_row_tie rfl ⟨rfl, rfl⟩ Head.mainIs_card rfl
    (fun f fn hf hfn => by
      obtain rfl : f = 6 := Option.some.inj (Cf6.fn.symm.trans hf) |>.symm
      obtain rfl : fn = Tryd.f6 := (Option.some.inj (Tryd.func6.symm.trans hfn)).symm
      exact ⟨Head.looks_no, fun j t ht => by
        rw [Tryd.params6] at ht
        have hm : t ∈ [9] := by simpa using Array.mem_of_getElem? ht
        have hall : ([9].all fun u => !Tryd.prog.wantsStandIn u) = true := by kernel_rfl
        exact (show Tryd.prog.wantsStandIn t = false by simpa using List.all_eq_true.1 hall t hm)⟩)
    Cf6.goes

end Go.Proofs.Qxb6601790aDoor
