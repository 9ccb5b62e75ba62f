/-
  The closed facts of the row, one by one (the kernel reckons each by itself).
-/
import Derived.Test.Qxb6601828aDoorRows
import Derived.Test.Qxb6601828aDoorHead
import Derived.ProofKit
namespace Go.Proofs.Qxb6601828aDoor.Cf4
open Go.ChangeShapes Go.WideShapes Go.ChangeAt Go.RowKit
theorem c0 : (Rows.fnCutBearerTakesOffEverySpellingRow.wf (OpenSpec.ofChange Rows.fnCutBearerTakesOffEverySpellingSpec)) = true := by kernel_rfl
theorem c1 : (laidOutB Tryd.prog) = true := by kernel_rfl
theorem c2 : (mapsRowed Tryd.prog) = true := by kernel_rfl
theorem c3 : (Tryd.f4.params.all (Tryd.prog.readableRec ·)) = true := by kernel_rfl
theorem c4 : (namedTie Tryd.prog Rows.fnCutBearerTakesOffEverySpellingRow.named Rows.fnCutBearerTakesOffEverySpellingSpec.vars) = true := by kernel_rfl
theorem c5 : ((Rows.fnCutBearerTakesOffEverySpellingRow.stops == [])) = true := by kernel_rfl
theorem c6 : ((Tryd.prog.stops == [])) = true := by kernel_rfl
theorem c7 : ((Rows.fnCutBearerTakesOffEverySpellingRow.knobs == [])) = true := by kernel_rfl
theorem c8 : ((Tryd.prog.stopKnobs == [])) = true := by kernel_rfl
theorem c9 : ((Rows.fnCutBearerTakesOffEverySpellingRow.inPlace == Tryd.prog.inPlace 4)) = true := by kernel_rfl
theorem c10 : ((Rows.fnCutBearerTakesOffEverySpellingRow.unfollowed == Tryd.prog.unfollowed 4)) = true := by kernel_rfl
theorem c11 : ((Rows.fnCutBearerTakesOffEverySpellingRow.recurses == Tryd.prog.recurses 4)) = true := by kernel_rfl
theorem c12 : ((Rows.fnCutBearerTakesOffEverySpellingRow.named == Tryd.prog.varsNamed 4)) = true := by kernel_rfl
theorem c13 : ((Rows.fnCutBearerTakesOffEverySpellingRow.maps == (Tryd.f4.params.toList ++ Rows.fnCutBearerTakesOffEverySpellingSpec.plain.varTypes Tryd.prog).any (Tryd.prog.mapsRec ·))) = true := by kernel_rfl
theorem c14 : ((Rows.fnCutBearerTakesOffEverySpellingRow.ifaces == (Tryd.f4.params.toList ++ Rows.fnCutBearerTakesOffEverySpellingSpec.plain.varTypes Tryd.prog).any (Tryd.prog.ifacesRec ·))) = true := by kernel_rfl
theorem c15 : ((Rows.fnCutBearerTakesOffEverySpellingRow.mapsOut == Tryd.prog.mapsAmong Tryd.f4.resultTypes.toList)) = true := by kernel_rfl
theorem c16 : ((Rows.fnCutBearerTakesOffEverySpellingRow.loops == (Tryd.f4.params.toList ++ Rows.fnCutBearerTakesOffEverySpellingSpec.plain.varTypes Tryd.prog).any (Tryd.prog.loopsFrom ·))) = true := by kernel_rfl
theorem c17 : ((Rows.fnCutBearerTakesOffEverySpellingRow.wideKeys == (Tryd.f4.params.toList ++ Rows.fnCutBearerTakesOffEverySpellingSpec.plain.varTypes Tryd.prog ++ Tryd.f4.resultTypes.toList).any (Tryd.prog.wideKeysFrom ·))) = true := by kernel_rfl
theorem c18 : (Rows.fnCutBearerTakesOffEverySpellingSpec.vars.all (Tryd.prog.varReadable ·)) = true := by kernel_rfl
theorem c19 : (Tryd.f4.resultTypes.all (fun t => Tryd.prog.readableRec t && decide (t < Tryd.prog.types.size))) = true := by kernel_rfl
theorem c20 : ((Rows.fnCutBearerTakesOffEverySpellingRow.ifacesOut == Tryd.f4.resultTypes.toList.any (Tryd.prog.ifacesRec ·))) = true := by kernel_rfl
theorem c21 : ((Rows.fnCutBearerTakesOffEverySpellingRow.loopsOut == Tryd.f4.resultTypes.toList.any (Tryd.prog.loopsFrom ·))) = true := by kernel_rfl
theorem c22 : ((Rows.fnCutBearerTakesOffEverySpellingRow.plainKeys == Tryd.prog.plainKeys)) = true := by kernel_rfl
theorem c23 : (Rows.fnCutBearerTakesOffEverySpellingRow.shortTexts.isNone) = true := by kernel_rfl
theorem c24 : (Tryd.prog.stopsHeard) = true := by kernel_rfl
theorem c25 : (Tryd.prog.mayEnter) = true := Head.mayEnter
theorem c26 : ((Rows.fnCutBearerTakesOffEverySpellingRow.lifted == Tryd.prog.liftsFinal)) = true := by rw [Head.liftsFinal]; rfl
theorem c27 : ((Tryd.prog.make == some Rows.fnCutBearerTakesOffEverySpellingRow.make)) = true := by rw [Head.make_cut]; rfl
theorem c28 : ((Rows.fnCutBearerTakesOffEverySpellingRow.kinds == (if Rows.fnCutBearerTakesOffEverySpellingRow.domain.isEmpty then [] else Tryd.f4.params.toList.map fun t => match Tryd.prog.underlying t with | some (.int k) => some k | _ => none))) = true := by kernel_rfl
theorem c29 : ((Rows.fnCutBearerTakesOffEverySpellingRow.pinned == Rows.fnCutBearerTakesOffEverySpellingRow.pinnedBy)) = true := by kernel_rfl
theorem c30 : ((Rows.fnCutBearerTakesOffEverySpellingRow.veiled == (Tryd.f4.params.toList ++ Rows.fnCutBearerTakesOffEverySpellingSpec.plain.varTypes Tryd.prog ++ Tryd.f4.resultTypes.toList).any (Tryd.prog.veiledRec ·))) = true := by kernel_rfl
theorem c31 : (Rows.fnCutBearerTakesOffEverySpellingRow.veiledFits Tryd.prog Tryd.f4.params.toList (Tryd.f4.params.toList ++ Rows.fnCutBearerTakesOffEverySpellingSpec.plain.varTypes Tryd.prog ++ Tryd.f4.resultTypes.toList)) = true := by kernel_rfl
set_option maxRecDepth 100000 in
theorem closed : joinedFacts Tryd.prog 4 Tryd.f4 Rows.fnCutBearerTakesOffEverySpellingSpec Rows.fnCutBearerTakesOffEverySpellingRow = true := by
  unfold joinedFacts
  simp only [Bool.and_eq_true]
  exact ⟨⟨⟨⟨⟨⟨⟨⟨⟨⟨⟨⟨⟨⟨⟨⟨⟨⟨⟨⟨⟨⟨⟨⟨⟨⟨⟨⟨⟨⟨⟨c0, c1⟩, c2⟩, c3⟩, c4⟩, c5⟩, c6⟩, c7⟩, c8⟩, c9⟩, c10⟩, c11⟩, c12⟩, c13⟩, c14⟩, c15⟩, c16⟩, c17⟩, c18⟩, c19⟩, c20⟩, c21⟩, c22⟩, c23⟩, c24⟩, c25⟩, c26⟩, c27⟩, c28⟩, c29⟩, c30⟩, c31⟩
theorem fn : Tryd.prog.funcNamed Rows.fnCutBearerTakesOffEverySpellingRow.func = some 4 := by kernel_rfl
theorem inst : Tryd.f4.isInstance Tryd.prog Rows.fnCutBearerTakesOffEverySpellingRow.origin Rows.fnCutBearerTakesOffEverySpellingRow.targs := of_decide_eq_true (by kernel_rfl)
theorem wrap : Tryd.f4.isWrapper Tryd.prog Rows.fnCutBearerTakesOffEverySpellingRow.wrapper Rows.fnCutBearerTakesOffEverySpellingRow.mainSum := by unfold Func.isWrapper; first | (rw [if_pos (by decide +kernel)]; kernel_rfl) | (rw [if_neg (by decide +kernel)]; exact ⟨rfl, rfl⟩)
theorem goes : false = Rows.fnCutBearerTakesOffEverySpellingRow.goesBy Tryd.prog := by kernel_rfl
theorem wft : Rows.fnCutBearerTakesOffEverySpellingRow.wfByText (OpenSpec.ofChange Rows.fnCutBearerTakesOffEverySpellingSpec) = true := by kernel_rfl
end Go.Proofs.Qxb6601828aDoor.Cf4
