/-
  The closed facts of the row, one by one (the kernel reckons each by itself).
-/
import Derived.Test.Qxb6601790aDoorRows
import Derived.Test.Qxb6601790aDoorHead
import Derived.ProofKit
namespace Go.Proofs.Qxb6601790aDoor.Cf9
open Go.ChangeShapes Go.WideShapes Go.ChangeAt Go.RowKit
theorem c0 : (Rows.fnAppendTextReadsBackAsSameNumberRow.wf (OpenSpec.ofChange Rows.fnAppendTextReadsBackAsSameNumberSpec)) = true := by kernel_rfl
theorem c1 : (laidOutB Tryd.prog) = true := by kernel_rfl
theorem c2 : (mapsRowed Tryd.prog) = true := by kernel_rfl
theorem c3 : (Tryd.f9.params.all (Tryd.prog.readableRec ·)) = true := by kernel_rfl
theorem c4 : (namedTie Tryd.prog Rows.fnAppendTextReadsBackAsSameNumberRow.named Rows.fnAppendTextReadsBackAsSameNumberSpec.vars) = true := by kernel_rfl
theorem c5 : ((Rows.fnAppendTextReadsBackAsSameNumberRow.stops == [])) = true := by kernel_rfl
theorem c6 : ((Tryd.prog.stops == [])) = true := by kernel_rfl
theorem c7 : ((Rows.fnAppendTextReadsBackAsSameNumberRow.knobs == [])) = true := by kernel_rfl
theorem c8 : ((Tryd.prog.stopKnobs == [])) = true := by kernel_rfl
theorem c9 : ((Rows.fnAppendTextReadsBackAsSameNumberRow.inPlace == Tryd.prog.inPlace 9)) = true := by kernel_rfl
theorem c10 : ((Rows.fnAppendTextReadsBackAsSameNumberRow.unfollowed == Tryd.prog.unfollowed 9)) = true := by kernel_rfl
theorem c11 : ((Rows.fnAppendTextReadsBackAsSameNumberRow.recurses == Tryd.prog.recurses 9)) = true := by kernel_rfl
theorem c12 : ((Rows.fnAppendTextReadsBackAsSameNumberRow.named == Tryd.prog.varsNamed 9)) = true := by kernel_rfl
theorem c13 : ((Rows.fnAppendTextReadsBackAsSameNumberRow.maps == (Tryd.f9.params.toList ++ Rows.fnAppendTextReadsBackAsSameNumberSpec.plain.varTypes Tryd.prog).any (Tryd.prog.mapsRec ·))) = true := by kernel_rfl
theorem c14 : ((Rows.fnAppendTextReadsBackAsSameNumberRow.ifaces == (Tryd.f9.params.toList ++ Rows.fnAppendTextReadsBackAsSameNumberSpec.plain.varTypes Tryd.prog).any (Tryd.prog.ifacesRec ·))) = true := by kernel_rfl
theorem c15 : ((Rows.fnAppendTextReadsBackAsSameNumberRow.mapsOut == Tryd.prog.mapsAmong Tryd.f9.resultTypes.toList)) = true := by kernel_rfl
theorem c16 : ((Rows.fnAppendTextReadsBackAsSameNumberRow.loops == (Tryd.f9.params.toList ++ Rows.fnAppendTextReadsBackAsSameNumberSpec.plain.varTypes Tryd.prog).any (Tryd.prog.loopsFrom ·))) = true := by kernel_rfl
theorem c17 : ((Rows.fnAppendTextReadsBackAsSameNumberRow.wideKeys == (Tryd.f9.params.toList ++ Rows.fnAppendTextReadsBackAsSameNumberSpec.plain.varTypes Tryd.prog ++ Tryd.f9.resultTypes.toList).any (Tryd.prog.wideKeysFrom ·))) = true := by kernel_rfl
theorem c18 : (Rows.fnAppendTextReadsBackAsSameNumberSpec.vars.all (Tryd.prog.varReadable ·)) = true := by kernel_rfl
theorem c19 : (Tryd.f9.resultTypes.all (fun t => Tryd.prog.readableRec t && decide (t < Tryd.prog.types.size))) = true := by kernel_rfl
theorem c20 : ((Rows.fnAppendTextReadsBackAsSameNumberRow.ifacesOut == Tryd.f9.resultTypes.toList.any (Tryd.prog.ifacesRec ·))) = true := by kernel_rfl
theorem c21 : ((Rows.fnAppendTextReadsBackAsSameNumberRow.loopsOut == Tryd.f9.resultTypes.toList.any (Tryd.prog.loopsFrom ·))) = true := by kernel_rfl
theorem c22 : ((Rows.fnAppendTextReadsBackAsSameNumberRow.plainKeys == Tryd.prog.plainKeys)) = true := by kernel_rfl
theorem c23 : (Rows.fnAppendTextReadsBackAsSameNumberRow.shortTexts.isNone) = true := by kernel_rfl
theorem c24 : (Tryd.prog.stopsHeard) = true := by kernel_rfl
theorem c25 : (Tryd.prog.mayEnter) = true := Head.mayEnter
theorem c26 : ((Rows.fnAppendTextReadsBackAsSameNumberRow.lifted == Tryd.prog.liftsFinal)) = true := by rw [Head.liftsFinal]; rfl
theorem c27 : ((Tryd.prog.make == some Rows.fnAppendTextReadsBackAsSameNumberRow.make)) = true := by rw [Head.make_cut]; rfl
theorem c28 : ((Rows.fnAppendTextReadsBackAsSameNumberRow.kinds == (if Rows.fnAppendTextReadsBackAsSameNumberRow.domain.isEmpty then [] else Tryd.f9.params.toList.map fun t => match Tryd.prog.underlying t with | some (.int k) => some k | _ => none))) = true := by kernel_rfl
theorem c29 : ((Rows.fnAppendTextReadsBackAsSameNumberRow.pinned == Rows.fnAppendTextReadsBackAsSameNumberRow.pinnedBy)) = true := by kernel_rfl
theorem c30 : ((Rows.fnAppendTextReadsBackAsSameNumberRow.veiled == (Tryd.f9.params.toList ++ Rows.fnAppendTextReadsBackAsSameNumberSpec.plain.varTypes Tryd.prog ++ Tryd.f9.resultTypes.toList).any (Tryd.prog.veiledRec ·))) = true := by kernel_rfl
theorem c31 : (Rows.fnAppendTextReadsBackAsSameNumberRow.veiledFits Tryd.prog Tryd.f9.params.toList (Tryd.f9.params.toList ++ Rows.fnAppendTextReadsBackAsSameNumberSpec.plain.varTypes Tryd.prog ++ Tryd.f9.resultTypes.toList)) = true := by kernel_rfl
set_option maxRecDepth 100000 in
theorem closed : joinedFacts Tryd.prog 9 Tryd.f9 Rows.fnAppendTextReadsBackAsSameNumberSpec Rows.fnAppendTextReadsBackAsSameNumberRow = true := by
  unfold joinedFacts
  simp only [Bool.and_eq_true]
  exact ⟨⟨⟨⟨⟨⟨⟨⟨⟨⟨⟨⟨⟨⟨⟨⟨⟨⟨⟨⟨⟨⟨⟨⟨⟨⟨⟨⟨⟨⟨⟨c0, c1⟩, c2⟩, c3⟩, c4⟩, c5⟩, c6⟩, c7⟩, c8⟩, c9⟩, c10⟩, c11⟩, c12⟩, c13⟩, c14⟩, c15⟩, c16⟩, c17⟩, c18⟩, c19⟩, c20⟩, c21⟩, c22⟩, c23⟩, c24⟩, c25⟩, c26⟩, c27⟩, c28⟩, c29⟩, c30⟩, c31⟩
theorem fn : Tryd.prog.funcNamed Rows.fnAppendTextReadsBackAsSameNumberRow.func = some 9 := by kernel_rfl
theorem inst : Tryd.f9.isInstance Tryd.prog Rows.fnAppendTextReadsBackAsSameNumberRow.origin Rows.fnAppendTextReadsBackAsSameNumberRow.targs := of_decide_eq_true (by kernel_rfl)
theorem wrap : Tryd.f9.isWrapper Tryd.prog Rows.fnAppendTextReadsBackAsSameNumberRow.wrapper Rows.fnAppendTextReadsBackAsSameNumberRow.mainSum := by unfold Func.isWrapper; first | (rw [if_pos (by decide +kernel)]; kernel_rfl) | (rw [if_neg (by decide +kernel)]; exact ⟨rfl, rfl⟩)
theorem goes : false = Rows.fnAppendTextReadsBackAsSameNumberRow.goesBy Tryd.prog := by kernel_rfl
theorem wft : Rows.fnAppendTextReadsBackAsSameNumberRow.wfByText (OpenSpec.ofChange Rows.fnAppendTextReadsBackAsSameNumberSpec) = true := by kernel_rfl
end Go.Proofs.Qxb6601790aDoor.Cf9
