/-
  FnAppendTextReadsBackAsSameNumber: the row, and its tied card.
-/
import Derived.Test.Qxb6601790aDoorTie
import Derived.Test.Qxb6601790aDoorCards
import Derived.Test.Qxb6601790aDoorPc
import Derived.Test.Qxb6601790aDoorAg
import Derived.Test.Qxb6601790aDoorCfe
import Derived.SevenTiedAt
import Derived.Carry
namespace Go.Proofs.Qxb6601790aDoor
open Go.ChangeShapes Go.WideShapes Go.ChangeAt Go.RowKit
open Go.ChangeMaps (open_string shut_string)

set_option maxRecDepth 100000 in
theorem lifted5 (os : Os) (started : os.Started) (H : Type) (enc : TypeId × Value → H) :
    ReturnsInHanded {} Tryd.checked os 9 .any (fun w args => (Rows.fnAppendTextReadsBackAsSameNumberSpec.pre enc Tryd.prog Tryd.f9 [] false w args ∧ laidMetH Tryd.prog Rows.fnAppendTextReadsBackAsSameNumberRow.laid w) ∧ sizedMet enc Tryd.prog Tryd.f9 (OpenSpec.ofChange Rows.fnAppendTextReadsBackAsSameNumberSpec) false w args)
      (Rows.fnAppendTextReadsBackAsSameNumberSpec.post enc Tryd.prog Tryd.f9 false true false false) := by
  refine returnsInHanded_of_change_and (C := Tryd.checked) (X := fun w _ => laidMetH Tryd.prog Rows.fnAppendTextReadsBackAsSameNumberRow.laid w) (fun _ _ _ hh h => h.of_heap hh) own started (by kernel_rfl) Tryd.func9
    (ChangeSpec.witness_shaped (enc := enc) (C := Tryd.checked) (os := os) (X := fun w _ => laidMetH Tryd.prog Rows.fnAppendTextReadsBackAsSameNumberRow.laid w) false (World.laidAll Tryd.prog os Rows.fnAppendTextReadsBackAsSameNumberRow.laid) #[.bool false, .string ByteArray.empty, .string ByteArray.empty, .int .i64 0] 8 (World.laidAll_os _ _ _)
      (World.shaped_of_ZipB (by kernel_rfl) (by kernel_rfl)) (by kernel_rfl) (by kernel_rfl) (by kernel_rfl)
      (by rw [MakeChecks.laidMetH_plain _ _ _ (by kernel_rfl)]; exact laidMet_laidAll _ (by kernel_rfl) (by kernel_rfl))) ?_
  intro W base args ds gs before hval0 hW _ _ hL _
  have hval : ∀ (j : Nat) t v, Tryd.f9.params[j]? = some t → args[j]? = some v → Value.okWide Tryd.prog W .any base t v := hval0
  have hW' := hW
  obtain ⟨p, q, hA0, hV, rfl, _, _⟩ := hW
  have hA : DataW.TrodAll enc Tryd.prog W 0 (fun _ => true) true Tryd.f9.params.toList args.toList ds p := hA0
  rw [Tryd.params9] at hA hval
  obtain ⟨v0, v1, v2, v3, d0, d1, d2, d3, p0, p1, p2, p3, rfl, rfl, rfl, h0, h1, h2, h3⟩ := trodAll_four hA
  obtain ⟨rfl, rfl⟩ := trodVars_none hV
  obtain ⟨b, rfl, rfl, rfl⟩ := open_bool Tryd.underlying4 (hval 0 4 v0 rfl rfl) h0
  obtain ⟨s1, rfl, rfl, rfl, hs1⟩ := open_string Tryd.underlying9 (hval 1 9 v1 rfl rfl) h1
  obtain ⟨s2, rfl, rfl, rfl, hs2⟩ := open_string Tryd.underlying9 (hval 2 9 v2 rfl rfl) h2
  obtain ⟨x, rfl, rfl, rfl, wx⟩ := open_int Tryd.underlying2 (hval 3 2 v3 rfl rfl) h3
  have hx : -9223372036854775808 ≤ x ∧ x ≤ 9223372036854775807 := by
    have h : (decide (IntKind.i64.min ≤ x) && decide (x ≤ IntKind.i64.max)) = true := wx
    rw [Bool.and_eq_true, decide_eq_true_iff, decide_eq_true_iff] at h
    exact h
  simp only [List.append_nil] at hW'
  refine (law9 b s1 s2 x W (tab_of_laid hL) hs1 hs2 hx.1 hx.2).mono fun e W' ⟨he, hb⟩ => ?_
  subst he
  exact ⟨_, rfl, _, _, _, [], [], [], hW', trodAll_mk1 (shut_bool Tryd.underlying4 _), trodAll_mk4 (shut_bool Tryd.underlying4 _) (shut_string Tryd.underlying9 hs1) (shut_string Tryd.underlying9 hs2) (shut_int Tryd.underlying2 wx), rfl, hb.frame _, fun h => by cases h⟩

theorem row5 : Rows.FnAppendTextReadsBackAsSameNumberSaid :=
  OpenClaim.holds_of_wide 9 Tryd.f9 rfl rfl rfl rfl rfl rfl rfl ⟨rfl, rfl, rfl, rfl, rfl⟩ rfl rfl rfl rfl rfl Cf9.fn Tryd.func9 Cf9.closed
    Cf9.inst Cf9.wrap (fun os started H enc _ => lifted5 os started H enc)

/-- The card. -/
theorem fnAppendTextReadsBackAsSameNumber_card : Rows.FnAppendTextReadsBackAsSameNumberCardSaid :=
  Claim7.holds_tied_plain_at .later [] [.data, .data, .data, .data, .pinned] true Rows.fnAppendTextReadsBackAsSameNumberCard.stood.harness false
    row5 (fun _ h => by cases h) Cf9.wft (fun _ h => by cases h) fnAppendTextReadsBackAsSameNumber_row_tie rfl ⟨rfl, rfl⟩ Head.mainIs_card rfl
    (fun f fn hf hfn => by
      obtain rfl : f = 9 := Option.some.inj (Cf9.fn.symm.trans hf) |>.symm
      obtain rfl : fn = Tryd.f9 := (Option.some.inj (Tryd.func9.symm.trans hfn)).symm
      exact ⟨Head.looks_no, fun j t ht => by
        rw [Tryd.params9] at ht
        have hm : t ∈ [4, 9, 9, 2] := by simpa using Array.mem_of_getElem? ht
        have hall : ([4, 9, 9, 2].all fun u => !Tryd.prog.wantsStandIn u) = true := by kernel_rfl
        exact (show Tryd.prog.wantsStandIn t = false by simpa using List.all_eq_true.1 hall t hm)⟩)
    Cf9.goes

end Go.Proofs.Qxb6601790aDoor
