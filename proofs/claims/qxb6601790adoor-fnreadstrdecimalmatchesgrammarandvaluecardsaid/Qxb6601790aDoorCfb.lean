/-
  The closed facts of the row, one by one (the kernel reckons each by itself).
-/
import Derived.Test.Qxb6601790aDoorRows
import Derived.Test.Qxb6601790aDoorHead
import Derived.ProofKit
namespace Go.Proofs.Qxb6601790aDoor.Cf5
open Go.ChangeShapes Go.WideShapes Go.ChangeAt Go.RowKit
theorem c0 : (Rows.fnReadStrDecimalMatchesGrammarAndValueRow.wf (OpenSpec.ofChange Rows.fnReadStrDecimalMatchesGrammarAndValueSpec)) = true := by kernel_rfl
theorem c1 : (laidOutB Tryd.prog) = true := by kernel_rfl
theorem c2 : (mapsRowed Tryd.prog) = true := by kernel_rfl
theorem c3 : (Tryd.f5.params.all (Tryd.prog.readableRec ·)) = true := by kernel_rfl
theorem c4 : (namedTie Tryd.prog Rows.fnReadStrDecimalMatchesGrammarAndValueRow.named Rows.fnReadStrDecimalMatchesGrammarAndValueSpec.vars) = true := by kernel_rfl
theorem c5 : ((Rows.fnReadStrDecimalMatchesGrammarAndValueRow.stops == [])) = true := by kernel_rfl
theorem c6 : ((Tryd.prog.stops == [])) = true := by kernel_rfl
theorem c7 : ((Rows.fnReadStrDecimalMatchesGrammarAndValueRow.knobs == [])) = true := by kernel_rfl
theorem c8 : ((Tryd.prog.stopKnobs == [])) = true := by kernel_rfl
theorem c9 : ((Rows.fnReadStrDecimalMatchesGrammarAndValueRow.inPlace == Tryd.prog.inPlace 5)) = true := by kernel_rfl
theorem c10 : ((Rows.fnReadStrDecimalMatchesGrammarAndValueRow.unfollowed == Tryd.prog.unfollowed 5)) = true := by kernel_rfl
theorem c11 : ((Rows.fnReadStrDecimalMatchesGrammarAndValueRow.recurses == Tryd.prog.recurses 5)) = true := by kernel_rfl
theorem c12 : ((Rows.fnReadStrDecimalMatchesGrammarAndValueRow.named == Tryd.prog.varsNamed 5)) = true := by kernel_rfl
theorem c13 : ((Rows.fnReadStrDecimalMatchesGrammarAndValueRow.maps == (Tryd.f5.params.toList ++ Rows.fnReadStrDecimalMatchesGrammarAndValueSpec.plain.varTypes Tryd.prog).any (Tryd.prog.mapsRec ·))) = true := by kernel_rfl
theorem c14 : ((Rows.fnReadStrDecimalMatchesGrammarAndValueRow.ifaces == (Tryd.f5.params.toList ++ Rows.fnReadStrDecimalMatchesGrammarAndValueSpec.plain.varTypes Tryd.prog).any (Tryd.prog.ifacesRec ·))) = true := by kernel_rfl
theorem c15 : ((Rows.fnReadStrDecimalMatchesGrammarAndValueRow.mapsOut == Tryd.prog.mapsAmong Tryd.f5.resultTypes.toList)) = true := by kernel_rfl
theorem c16 : ((Rows.fnReadStrDecimalMatchesGrammarAndValueRow.loops == (Tryd.f5.params.toList ++ Rows.fnReadStrDecimalMatchesGrammarAndValueSpec.plain.varTypes Tryd.prog).any (Tryd.prog.loopsFrom ·))) = true := by kernel_rfl
theorem c17 : ((Rows.fnReadStrDecimalMatchesGrammarAndValueRow.wideKeys == (Tryd.f5.params.toList ++ Rows.fnReadStrDecimalMatchesGrammarAndValueSpec.plain.varTypes Tryd.prog ++ Tryd.f5.resultTypes.toList).any (Tryd.prog.wideKeysFrom ·))) = true := by kernel_rfl
theorem c18 : (Rows.fnReadStrDecimalMatchesGrammarAndValueSpec.vars.all (Tryd.prog.varReadable ·)) = true := by kernel_rfl
theorem c19 : (Tryd.f5.resultTypes.all (fun t => Tryd.prog.readableRec t && decide (t < Tryd.prog.types.size))) = true := by kernel_rfl
theorem c20 : ((Rows.fnReadStrDecimalMatchesGrammarAndValueRow.ifacesOut == Tryd.f5.resultTypes.toList.any (Tryd.prog.ifacesRec ·))) = true := by kernel_rfl
theorem c21 : ((Rows.fnReadStrDecimalMatchesGrammarAndValueRow.loopsOut == Tryd.f5.resultTypes.toList.any (Tryd.prog.loopsFrom ·))) = true := by kernel_rfl
theorem c22 : ((Rows.fnReadStrDecimalMatchesGrammarAndValueRow.plainKeys == Tryd.prog.plainKeys)) = true := by kernel_rfl
theorem c23 : (Rows.fnReadStrDecimalMatchesGrammarAndValueRow.shortTexts.isNone) = true := by kernel_rfl
theorem c24 : (Tryd.prog.stopsHeard) = true := by kernel_rfl
theorem c25 : (Tryd.prog.mayEnter) = true := Head.mayEnter
theorem c26 : ((Rows.fnReadStrDecimalMatchesGrammarAndValueRow.lifted == Tryd.prog.liftsFinal)) = true := by rw [Head.liftsFinal]; rfl
theorem c27 : ((Tryd.prog.make == some Rows.fnReadStrDecimalMatchesGrammarAndValueRow.make)) = true := by rw [Head.make_cut]; rfl
theorem c28 : ((Rows.fnReadStrDecimalMatchesGrammarAndValueRow.kinds == (if Rows.fnReadStrDecimalMatchesGrammarAndValueRow.domain.isEmpty then [] else Tryd.f5.params.toList.map fun t => match Tryd.prog.underlying t with | some (.int k) => some k | _ => none))) = true := by kernel_rfl
theorem c29 : ((Rows.fnReadStrDecimalMatchesGrammarAndValueRow.pinned == Rows.fnReadStrDecimalMatchesGrammarAndValueRow.pinnedBy)) = true := by kernel_rfl
theorem c30 : ((Rows.fnReadStrDecimalMatchesGrammarAndValueRow.veiled == (Tryd.f5.params.toList ++ Rows.fnReadStrDecimalMatchesGrammarAndValueSpec.plain.varTypes Tryd.prog ++ Tryd.f5.resultTypes.toList).any (Tryd.prog.veiledRec ·))) = true := by kernel_rfl
theorem c31 : (Rows.fnReadStrDecimalMatchesGrammarAndValueRow.veiledFits Tryd.prog Tryd.f5.params.toList (Tryd.f5.params.toList ++ Rows.fnReadStrDecimalMatchesGrammarAndValueSpec.plain.varTypes Tryd.prog ++ Tryd.f5.resultTypes.toList)) = true := by kernel_rfl
set_option maxRecDepth 100000 in
theorem closed : joinedFacts Tryd.prog 5 Tryd.f5 Rows.fnReadStrDecimalMatchesGrammarAndValueSpec Rows.fnReadStrDecimalMatchesGrammarAndValueRow = true := by
  unfold joinedFacts
  simp only [Bool.and_eq_true]
  exact ⟨⟨⟨⟨⟨⟨⟨⟨⟨⟨⟨⟨⟨⟨⟨⟨⟨⟨⟨⟨⟨⟨⟨⟨⟨⟨⟨⟨⟨⟨⟨c0, c1⟩, c2⟩, c3⟩, c4⟩, c5⟩, c6⟩, c7⟩, c8⟩, c9⟩, c10⟩, c11⟩, c12⟩, c13⟩, c14⟩, c15⟩, c16⟩, c17⟩, c18⟩, c19⟩, c20⟩, c21⟩, c22⟩, c23⟩, c24⟩, c25⟩, c26⟩, c27⟩, c28⟩, c29⟩, c30⟩, c31⟩
theorem fn : Tryd.prog.funcNamed Rows.fnReadStrDecimalMatchesGrammarAndValueRow.func = some 5 := by kernel_rfl
theorem inst : Tryd.f5.isInstance Tryd.prog Rows.fnReadStrDecimalMatchesGrammarAndValueRow.origin Rows.fnReadStrDecimalMatchesGrammarAndValueRow.targs := of_decide_eq_true (by kernel_rfl)
theorem wrap : Tryd.f5.isWrapper Tryd.prog Rows.fnReadStrDecimalMatchesGrammarAndValueRow.wrapper Rows.fnReadStrDecimalMatchesGrammarAndValueRow.mainSum := by unfold Func.isWrapper; first | (rw [if_pos (by decide +kernel)]; kernel_rfl) | (rw [if_neg (by decide +kernel)]; exact ⟨rfl, rfl⟩)
theorem goes : false = Rows.fnReadStrDecimalMatchesGrammarAndValueRow.goesBy Tryd.prog := by kernel_rfl
theorem wft : Rows.fnReadStrDecimalMatchesGrammarAndValueRow.wfByText (OpenSpec.ofChange Rows.fnReadStrDecimalMatchesGrammarAndValueSpec) = true := by kernel_rfl
end Go.Proofs.Qxb6601790aDoor.Cf5
