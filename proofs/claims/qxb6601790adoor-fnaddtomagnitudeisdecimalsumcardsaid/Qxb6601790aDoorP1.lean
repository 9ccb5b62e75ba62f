/-
  FnAddToMagnitudeIsDecimalSum: the row, and its tied card.
-/
import Derived.Test.Qxb6601790aDoorTie
import Derived.Test.Qxb6601790aDoorCards
import Derived.Test.Qxb6601790aDoorLib
import Derived.Test.Qxb6601790aDoorWd
import Derived.Test.Qxb6601790aDoorCfa
import Derived.ProofKit
import Derived.OpenShut
import Derived.Lay
import Derived.Stop.LaidErr
import Derived.SevenTiedAt
namespace Go.Proofs.Qxb6601790aDoor
open Go.ChangeShapes Go.WideShapes Go.ChangeAt Go.RowKit
open Go.ChangeMaps (open_string shut_string)

theorem own : ownKnob Tryd.prog.godebug = none := by kernel_rfl
theorem tab_eq : (Rows.laid_internal_strconv_uint64pow10 : DataW Unit) = Lib.tabData .u64 Lib.pow10Tab := by kernel_rfl
theorem gPow : Tryd.prog.globalNamed powName = some 0 := by kernel_rfl
theorem tPow : (Tryd.prog.globals[0]?).map (·.type) = some 99 := by kernel_rfl
theorem cells40 : Tryd.prog.cellsOf 40 = 1 := by kernel_rfl
theorem cells99 : Tryd.prog.cellsOf 99 = 20 := by kernel_rfl
/-- The row's condition gives the table of powers of ten. -/
theorem tab_of_laid {W : World} (h : laidMetH Tryd.prog Rows.fnAddToMagnitudeIsDecimalSumRow.laid W) : Tab powName W := by
  rw [MakeChecks.laidMetH_plain _ _ _ (by kernel_rfl)] at h
  have h2 : laidMet Tryd.prog ((powName, Lib.tabData .u64 Lib.pow10Tab) :: (Rows.fnAddToMagnitudeIsDecimalSumRow.laid.drop 3)) W := tab_eq ▸ h.tail.tail
  exact Lib.tabIs_of_head gPow tPow Tryd.underlying99 Tryd.underlying40 cells40 cells99 h2

set_option maxRecDepth 100000 in
theorem lifted1 (os : Os) (started : os.Started) (H : Type) (enc : TypeId × Value → H) :
    ReturnsInHanded {} Tryd.checked os 3 .any (fun w args => (Rows.fnAddToMagnitudeIsDecimalSumSpec.pre enc Tryd.prog Tryd.f3 [] false w args ∧ laidMetH Tryd.prog Rows.fnAddToMagnitudeIsDecimalSumRow.laid w) ∧ sizedMet enc Tryd.prog Tryd.f3 (OpenSpec.ofChange Rows.fnAddToMagnitudeIsDecimalSumSpec) false w args)
      (Rows.fnAddToMagnitudeIsDecimalSumSpec.post enc Tryd.prog Tryd.f3 false true false false) := by
  refine returnsInHanded_of_change_and (C := Tryd.checked) (X := fun w _ => laidMetH Tryd.prog Rows.fnAddToMagnitudeIsDecimalSumRow.laid w) (fun _ _ _ hh h => h.of_heap hh) own started (by kernel_rfl) Tryd.func3
    (ChangeSpec.witness_shaped (enc := enc) (C := Tryd.checked) (os := os) (X := fun w _ => laidMetH Tryd.prog Rows.fnAddToMagnitudeIsDecimalSumRow.laid w) false (World.laidAll Tryd.prog os Rows.fnAddToMagnitudeIsDecimalSumRow.laid) #[.string ByteArray.empty, .int .i64 0] 8 (World.laidAll_os _ _ _)
      (World.shaped_of_ZipB (by kernel_rfl) (by kernel_rfl)) (by kernel_rfl) (by kernel_rfl) (by kernel_rfl)
      (by rw [MakeChecks.laidMetH_plain _ _ _ (by kernel_rfl)]; exact laidMet_laidAll _ (by kernel_rfl) (by kernel_rfl))) ?_
  intro W base args ds gs before hval0 hW _ _ hL _
  have hval : ∀ (j : Nat) t v, Tryd.f3.params[j]? = some t → args[j]? = some v → Value.okWide Tryd.prog W .any base t v := hval0
  have hW' := hW
  obtain ⟨p, q, hA0, hV, rfl, _, _⟩ := hW
  have hA : DataW.TrodAll enc Tryd.prog W 0 (fun _ => true) true Tryd.f3.params.toList args.toList ds p := hA0
  rw [Tryd.params3] at hA hval
  obtain ⟨v0, v1, d0, d1, p0, p1, rfl, rfl, rfl, h0, h1⟩ := trodAll_two hA
  obtain ⟨rfl, rfl⟩ := trodVars_none hV
  obtain ⟨s, rfl, rfl, rfl, hs⟩ := open_string Tryd.underlying9 (hval 0 9 v0 rfl rfl) h0
  obtain ⟨x, rfl, rfl, rfl, wx⟩ := open_int Tryd.underlying2 (hval 1 2 v1 rfl rfl) h1
  simp only [List.append_nil] at hW'
  refine (law3 powName paid38 paid39 paid40 s x W (tab_of_laid hL) hs).mono fun e W' ⟨he, hb⟩ => ?_
  subst he
  exact ⟨_, rfl, _, _, _, [], [], [], hW', trodAll_mk1 (shut_bool Tryd.underlying4 _), trodAll_mk2 (shut_string Tryd.underlying9 hs) (shut_int Tryd.underlying2 wx), rfl, hb.frame _, fun h => by cases h⟩

theorem row1 : Rows.FnAddToMagnitudeIsDecimalSumSaid :=
  OpenClaim.holds_of_wide 3 Tryd.f3 rfl rfl rfl rfl rfl rfl rfl ⟨rfl, rfl, rfl, rfl, rfl⟩ rfl rfl rfl rfl rfl Cf3.fn Tryd.func3 Cf3.closed
    Cf3.inst Cf3.wrap (fun os started H enc _ => lifted1 os started H enc)

/-- The card. -/
theorem fnAddToMagnitudeIsDecimalSum_card : Rows.FnAddToMagnitudeIsDecimalSumCardSaid :=
  Claim7.holds_tied_plain_at .later [] [.data, .data, .data, .data, .pinned] true Rows.fnAddToMagnitudeIsDecimalSumCard.stood.harness false
    row1 (fun _ h => by cases h) Cf3.wft (fun _ h => by cases h) fnAddToMagnitudeIsDecimalSum_row_tie rfl ⟨rfl, rfl⟩ Head.mainIs_card rfl
    (fun f fn hf hfn => by
      obtain rfl : f = 3 := Option.some.inj (Cf3.fn.symm.trans hf) |>.symm
      obtain rfl : fn = Tryd.f3 := (Option.some.inj (Tryd.func3.symm.trans hfn)).symm
      exact ⟨Head.looks_no, fun j t ht => by
        rw [Tryd.params3] at ht
        have hm : t ∈ [9, 2] := by simpa using Array.mem_of_getElem? ht
        have hall : ([9, 2].all fun u => !Tryd.prog.wantsStandIn u) = true := by kernel_rfl
        exact (show Tryd.prog.wantsStandIn t = false by simpa using List.all_eq_true.1 hall t hm)⟩)
    Cf3.goes

end Go.Proofs.Qxb6601790aDoor
