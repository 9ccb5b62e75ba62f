/-
  The closed facts of the row, one by one (the kernel reckons each by itself).
-/
import Derived.Test.Qxb6601828aDoorRows
import Derived.Test.Qxb6601828aDoorHead
import Derived.ProofKit
namespace Go.Proofs.Qxb6601828aDoor.Cf3
open Go.ChangeShapes Go.WideShapes Go.ChangeAt Go.RowKit
theorem c0 : (Rows.fnCutBearerMatchesPrefixModelRow.wf (OpenSpec.ofChange Rows.fnCutBearerMatchesPrefixModelSpec)) = true := by kernel_rfl
theorem c1 : (laidOutB Tryd.prog) = true := by kernel_rfl
theorem c2 : (mapsRowed Tryd.prog) = true := by kernel_rfl
theorem c3 : (Tryd.f3.params.all (Tryd.prog.readableRec ·)) = true := by kernel_rfl
theorem c4 : (namedTie Tryd.prog Rows.fnCutBearerMatchesPrefixModelRow.named Rows.fnCutBearerMatchesPrefixModelSpec.vars) = true := by kernel_rfl
theorem c5 : ((Rows.fnCutBearerMatchesPrefixModelRow.stops == [])) = true := by kernel_rfl
theorem c6 : ((Tryd.prog.stops == [])) = true := by kernel_rfl
theorem c7 : ((Rows.fnCutBearerMatchesPrefixModelRow.knobs == [])) = true := by kernel_rfl
theorem c8 : ((Tryd.prog.stopKnobs == [])) = true := by kernel_rfl
theorem c9 : ((Rows.fnCutBearerMatchesPrefixModelRow.inPlace == Tryd.prog.inPlace 3)) = true := by kernel_rfl
theorem c10 : ((Rows.fnCutBearerMatchesPrefixModelRow.unfollowed == Tryd.prog.unfollowed 3)) = true := by kernel_rfl
theorem c11 : ((Rows.fnCutBearerMatchesPrefixModelRow.recurses == Tryd.prog.recurses 3)) = true := by kernel_rfl
theorem c12 : ((Rows.fnCutBearerMatchesPrefixModelRow.named == Tryd.prog.varsNamed 3)) = true := by kernel_rfl
theorem c13 : ((Rows.fnCutBearerMatchesPrefixModelRow.maps == (Tryd.f3.params.toList ++ Rows.fnCutBearerMatchesPrefixModelSpec.plain.varTypes Tryd.prog).any (Tryd.prog.mapsRec ·))) = true := by kernel_rfl
theorem c14 : ((Rows.fnCutBearerMatchesPrefixModelRow.ifaces == (Tryd.f3.params.toList ++ Rows.fnCutBearerMatchesPrefixModelSpec.plain.varTypes Tryd.prog).any (Tryd.prog.ifacesRec ·))) = true := by kernel_rfl
theorem c15 : ((Rows.fnCutBearerMatchesPrefixModelRow.mapsOut == Tryd.prog.mapsAmong Tryd.f3.resultTypes.toList)) = true := by kernel_rfl
theorem c16 : ((Rows.fnCutBearerMatchesPrefixModelRow.loops == (Tryd.f3.params.toList ++ Rows.fnCutBearerMatchesPrefixModelSpec.plain.varTypes Tryd.prog).any (Tryd.prog.loopsFrom ·))) = true := by kernel_rfl
theorem c17 : ((Rows.fnCutBearerMatchesPrefixModelRow.wideKeys == (Tryd.f3.params.toList ++ Rows.fnCutBearerMatchesPrefixModelSpec.plain.varTypes Tryd.prog ++ Tryd.f3.resultTypes.toList).any (Tryd.prog.wideKeysFrom ·))) = true := by kernel_rfl
theorem c18 : (Rows.fnCutBearerMatchesPrefixModelSpec.vars.all (Tryd.prog.varReadable ·)) = true := by kernel_rfl
theorem c19 : (Tryd.f3.resultTypes.all (fun t => Tryd.prog.readableRec t && decide (t < Tryd.prog.types.size))) = true := by kernel_rfl
theorem c20 : ((Rows.fnCutBearerMatchesPrefixModelRow.ifacesOut == Tryd.f3.resultTypes.toList.any (Tryd.prog.ifacesRec ·))) = true := by kernel_rfl
theorem c21 : ((Rows.fnCutBearerMatchesPrefixModelRow.loopsOut == Tryd.f3.resultTypes.toList.any (Tryd.prog.loopsFrom ·))) = true := by kernel_rfl
theorem c22 : ((Rows.fnCutBearerMatchesPrefixModelRow.plainKeys == Tryd.prog.plainKeys)) = true := by kernel_rfl
theorem c23 : (Rows.fnCutBearerMatchesPrefixModelRow.shortTexts.isNone) = true := by kernel_rfl
theorem c24 : (Tryd.prog.stopsHeard) = true := by kernel_rfl
theorem c25 : (Tryd.prog.mayEnter) = true := Head.mayEnter
theorem c26 : ((Rows.fnCutBearerMatchesPrefixModelRow.lifted == Tryd.prog.liftsFinal)) = true := by rw [Head.liftsFinal]; rfl
theorem c27 : ((Tryd.prog.make == some Rows.fnCutBearerMatchesPrefixModelRow.make)) = true := by rw [Head.make_cut]; rfl
theorem c28 : ((Rows.fnCutBearerMatchesPrefixModelRow.kinds == (if Rows.fnCutBearerMatchesPrefixModelRow.domain.isEmpty then [] else Tryd.f3.params.toList.map fun t => match Tryd.prog.underlying t with | some (.int k) => some k | _ => none))) = true := by kernel_rfl
theorem c29 : ((Rows.fnCutBearerMatchesPrefixModelRow.pinned == Rows.fnCutBearerMatchesPrefixModelRow.pinnedBy)) = true := by kernel_rfl
theorem c30 : ((Rows.fnCutBearerMatchesPrefixModelRow.veiled == (Tryd.f3.params.toList ++ Rows.fnCutBearerMatchesPrefixModelSpec.plain.varTypes Tryd.prog ++ Tryd.f3.resultTypes.toList).any (Tryd.prog.veiledRec ·))) = true := by kernel_rfl
theorem c31 : (Rows.fnCutBearerMatchesPrefixModelRow.veiledFits Tryd.prog Tryd.f3.params.toList (Tryd.f3.params.toList ++ Rows.fnCutBearerMatchesPrefixModelSpec.plain.varTypes Tryd.prog ++ Tryd.f3.resultTypes.toList)) = true := by kernel_rfl
set_option maxRecDepth 100000 in
theorem closed : joinedFacts Tryd.prog 3 Tryd.f3 Rows.fnCutBearerMatchesPrefixModelSpec Rows.fnCutBearerMatchesPrefixModelRow = true := by
  unfold joinedFacts
  simp only [Bool.and_eq_true]
  exact ⟨⟨⟨⟨⟨⟨⟨⟨⟨⟨⟨⟨⟨⟨⟨⟨⟨⟨⟨⟨⟨⟨⟨⟨⟨⟨⟨⟨⟨⟨⟨c0, c1⟩, c2⟩, c3⟩, c4⟩, c5⟩, c6⟩, c7⟩, c8⟩, c9⟩, c10⟩, c11⟩, c12⟩, c13⟩, c14⟩, c15⟩, c16⟩, c17⟩, c18⟩, c19⟩, c20⟩, c21⟩, c22⟩, c23⟩, c24⟩, c25⟩, c26⟩, c27⟩, c28⟩, c29⟩, c30⟩, c31⟩
theorem fn : Tryd.prog.funcNamed Rows.fnCutBearerMatchesPrefixModelRow.func = some 3 := by kernel_rfl
theorem inst : Tryd.f3.isInstance Tryd.prog Rows.fnCutBearerMatchesPrefixModelRow.origin Rows.fnCutBearerMatchesPrefixModelRow.targs := of_decide_eq_true (by kernel_rfl)
theorem wrap : Tryd.f3.isWrapper Tryd.prog Rows.fnCutBearerMatchesPrefixModelRow.wrapper Rows.fnCutBearerMatchesPrefixModelRow.mainSum := by unfold Func.isWrapper; first | (rw [if_pos (by decide +kernel)]; kernel_rfl) | (rw [if_neg (by decide +kernel)]; exact ⟨rfl, rfl⟩)
theorem goes : false = Rows.fnCutBearerMatchesPrefixModelRow.goesBy Tryd.prog := by kernel_rfl
theorem wft : Rows.fnCutBearerMatchesPrefixModelRow.wfByText (OpenSpec.ofChange Rows.fnCutBearerMatchesPrefixModelSpec) = true := by kernel_rfl
end Go.Proofs.Qxb6601828aDoor.Cf3
