/-
  The closed facts of the row, one by one (the kernel reckons each by itself).
-/
import Derived.Test.Qxb6602829aDoorRows
import Derived.Test.Qxb6602829aDoorHead
import Derived.ProofKit
namespace Go.Proofs.Qxb6602829aDoor.Cf3
open Go.ChangeShapes Go.WideShapes Go.ChangeAt Go.RowKit
theorem c0 : (Rows.fnSignificandMatchesDigitModelRow.wf (OpenSpec.ofChange Rows.fnSignificandMatchesDigitModelSpec)) = true := by kernel_rfl
theorem c1 : (laidOutB Tryd.prog) = true := by kernel_rfl
theorem c2 : (mapsRowed Tryd.prog) = true := by kernel_rfl
theorem c3 : (Tryd.f3.params.all (Tryd.prog.readableRec ·)) = true := by kernel_rfl
theorem c4 : (namedTie Tryd.prog Rows.fnSignificandMatchesDigitModelRow.named Rows.fnSignificandMatchesDigitModelSpec.vars) = true := by kernel_rfl
theorem c5 : ((Rows.fnSignificandMatchesDigitModelRow.stops == [])) = true := by kernel_rfl
theorem c6 : ((Tryd.prog.stops == [])) = true := by kernel_rfl
theorem c7 : ((Rows.fnSignificandMatchesDigitModelRow.knobs == [])) = true := by kernel_rfl
theorem c8 : ((Tryd.prog.stopKnobs == [])) = true := by kernel_rfl
theorem c9 : ((Rows.fnSignificandMatchesDigitModelRow.inPlace == Tryd.prog.inPlace 3)) = true := by kernel_rfl
theorem c10 : ((Rows.fnSignificandMatchesDigitModelRow.unfollowed == Tryd.prog.unfollowed 3)) = true := by kernel_rfl
theorem c11 : ((Rows.fnSignificandMatchesDigitModelRow.recurses == Tryd.prog.recurses 3)) = true := by kernel_rfl
theorem c12 : ((Rows.fnSignificandMatchesDigitModelRow.named == Tryd.prog.varsNamed 3)) = true := by kernel_rfl
theorem c13 : ((Rows.fnSignificandMatchesDigitModelRow.maps == (Tryd.f3.params.toList ++ Rows.fnSignificandMatchesDigitModelSpec.plain.varTypes Tryd.prog).any (Tryd.prog.mapsRec ·))) = true := by kernel_rfl
theorem c14 : ((Rows.fnSignificandMatchesDigitModelRow.ifaces == (Tryd.f3.params.toList ++ Rows.fnSignificandMatchesDigitModelSpec.plain.varTypes Tryd.prog).any (Tryd.prog.ifacesRec ·))) = true := by kernel_rfl
theorem c15 : ((Rows.fnSignificandMatchesDigitModelRow.mapsOut == Tryd.prog.mapsAmong Tryd.f3.resultTypes.toList)) = true := by kernel_rfl
theorem c16 : ((Rows.fnSignificandMatchesDigitModelRow.loops == (Tryd.f3.params.toList ++ Rows.fnSignificandMatchesDigitModelSpec.plain.varTypes Tryd.prog).any (Tryd.prog.loopsFrom ·))) = true := by kernel_rfl
theorem c17 : ((Rows.fnSignificandMatchesDigitModelRow.wideKeys == (Tryd.f3.params.toList ++ Rows.fnSignificandMatchesDigitModelSpec.plain.varTypes Tryd.prog ++ Tryd.f3.resultTypes.toList).any (Tryd.prog.wideKeysFrom ·))) = true := by kernel_rfl
theorem c18 : (Rows.fnSignificandMatchesDigitModelSpec.vars.all (Tryd.prog.varReadable ·)) = true := by kernel_rfl
theorem c19 : (Tryd.f3.resultTypes.all (fun t => Tryd.prog.readableRec t && decide (t < Tryd.prog.types.size))) = true := by kernel_rfl
theorem c20 : ((Rows.fnSignificandMatchesDigitModelRow.ifacesOut == Tryd.f3.resultTypes.toList.any (Tryd.prog.ifacesRec ·))) = true := by kernel_rfl
theorem c21 : ((Rows.fnSignificandMatchesDigitModelRow.loopsOut == Tryd.f3.resultTypes.toList.any (Tryd.prog.loopsFrom ·))) = true := by kernel_rfl
theorem c22 : ((Rows.fnSignificandMatchesDigitModelRow.plainKeys == Tryd.prog.plainKeys)) = true := by kernel_rfl
theorem c23 : (Rows.fnSignificandMatchesDigitModelRow.shortTexts.isNone) = true := by kernel_rfl
theorem c24 : (Tryd.prog.stopsHeard) = true := by kernel_rfl
theorem c25 : (Tryd.prog.mayEnter) = true := Head.mayEnter
theorem c26 : ((Rows.fnSignificandMatchesDigitModelRow.lifted == Tryd.prog.liftsFinal)) = true := by rw [Head.liftsFinal]; rfl
theorem c27 : ((Tryd.prog.make == some Rows.fnSignificandMatchesDigitModelRow.make)) = true := by rw [Head.make_cut]; rfl
theorem c28 : ((Rows.fnSignificandMatchesDigitModelRow.kinds == (if Rows.fnSignificandMatchesDigitModelRow.domain.isEmpty then [] else Tryd.f3.params.toList.map fun t => match Tryd.prog.underlying t with | some (.int k) => some k | _ => none))) = true := by kernel_rfl
theorem c29 : ((Rows.fnSignificandMatchesDigitModelRow.pinned == Rows.fnSignificandMatchesDigitModelRow.pinnedBy)) = true := by kernel_rfl
theorem c30 : ((Rows.fnSignificandMatchesDigitModelRow.veiled == (Tryd.f3.params.toList ++ Rows.fnSignificandMatchesDigitModelSpec.plain.varTypes Tryd.prog ++ Tryd.f3.resultTypes.toList).any (Tryd.prog.veiledRec ·))) = true := by kernel_rfl
theorem c31 : (Rows.fnSignificandMatchesDigitModelRow.veiledFits Tryd.prog Tryd.f3.params.toList (Tryd.f3.params.toList ++ Rows.fnSignificandMatchesDigitModelSpec.plain.varTypes Tryd.prog ++ Tryd.f3.resultTypes.toList)) = true := by kernel_rfl
set_option maxRecDepth 100000 in
theorem closed : joinedFacts Tryd.prog 3 Tryd.f3 Rows.fnSignificandMatchesDigitModelSpec Rows.fnSignificandMatchesDigitModelRow = true := by
  unfold joinedFacts
  simp only [Bool.and_eq_true]
  exact ⟨⟨⟨⟨⟨⟨⟨⟨⟨⟨⟨⟨⟨⟨⟨⟨⟨⟨⟨⟨⟨⟨⟨⟨⟨⟨⟨⟨⟨⟨⟨c0, c1⟩, c2⟩, c3⟩, c4⟩, c5⟩, c6⟩, c7⟩, c8⟩, c9⟩, c10⟩, c11⟩, c12⟩, c13⟩, c14⟩, c15⟩, c16⟩, c17⟩, c18⟩, c19⟩, c20⟩, c21⟩, c22⟩, c23⟩, c24⟩, c25⟩, c26⟩, c27⟩, c28⟩, c29⟩, c30⟩, c31⟩
theorem fn : Tryd.prog.funcNamed Rows.fnSignificandMatchesDigitModelRow.func = some 3 := by kernel_rfl
theorem inst : Tryd.f3.isInstance Tryd.prog Rows.fnSignificandMatchesDigitModelRow.origin Rows.fnSignificandMatchesDigitModelRow.targs := of_decide_eq_true (by kernel_rfl)
theorem wrap : Tryd.f3.isWrapper Tryd.prog Rows.fnSignificandMatchesDigitModelRow.wrapper Rows.fnSignificandMatchesDigitModelRow.mainSum := by unfold Func.isWrapper; first | (rw [if_pos (by decide +kernel)]; kernel_rfl) | (rw [if_neg (by decide +kernel)]; exact ⟨rfl, rfl⟩)
theorem goes : false = Rows.fnSignificandMatchesDigitModelRow.goesBy Tryd.prog := by kernel_rfl
theorem wft : Rows.fnSignificandMatchesDigitModelRow.wfByText (OpenSpec.ofChange Rows.fnSignificandMatchesDigitModelSpec) = true := by kernel_rfl
end Go.Proofs.Qxb6602829aDoor.Cf3
