/-
  The closed facts of the row, one by one (the kernel reckons each by itself).
-/
import Derived.Test.Qxb6601790aDoorRows
import Derived.Test.Qxb6601790aDoorHead
import Derived.ProofKit
namespace Go.Proofs.Qxb6601790aDoor.Cf6
open Go.ChangeShapes Go.WideShapes Go.ChangeAt Go.RowKit
theorem c0 : (Rows.fnReadStrDecimalCanonicalTextIsFixedPointRow.wf (OpenSpec.ofChange Rows.fnReadStrDecimalCanonicalTextIsFixedPointSpec)) = true := by kernel_rfl
theorem c1 : (laidOutB Tryd.prog) = true := by kernel_rfl
theorem c2 : (mapsRowed Tryd.prog) = true := by kernel_rfl
theorem c3 : (Tryd.f6.params.all (Tryd.prog.readableRec ·)) = true := by kernel_rfl
theorem c4 : (namedTie Tryd.prog Rows.fnReadStrDecimalCanonicalTextIsFixedPointRow.named Rows.fnReadStrDecimalCanonicalTextIsFixedPointSpec.vars) = true := by kernel_rfl
theorem c5 : ((Rows.fnReadStrDecimalCanonicalTextIsFixedPointRow.stops == [])) = true := by kernel_rfl
theorem c6 : ((Tryd.prog.stops == [])) = true := by kernel_rfl
theorem c7 : ((Rows.fnReadStrDecimalCanonicalTextIsFixedPointRow.knobs == [])) = true := by kernel_rfl
theorem c8 : ((Tryd.prog.stopKnobs == [])) = true := by kernel_rfl
theorem c9 : ((Rows.fnReadStrDecimalCanonicalTextIsFixedPointRow.inPlace == Tryd.prog.inPlace 6)) = true := by kernel_rfl
theorem c10 : ((Rows.fnReadStrDecimalCanonicalTextIsFixedPointRow.unfollowed == Tryd.prog.unfollowed 6)) = true := by kernel_rfl
theorem c11 : ((Rows.fnReadStrDecimalCanonicalTextIsFixedPointRow.recurses == Tryd.prog.recurses 6)) = true := by kernel_rfl
theorem c12 : ((Rows.fnReadStrDecimalCanonicalTextIsFixedPointRow.named == Tryd.prog.varsNamed 6)) = true := by kernel_rfl
theorem c13 : ((Rows.fnReadStrDecimalCanonicalTextIsFixedPointRow.maps == (Tryd.f6.params.toList ++ Rows.fnReadStrDecimalCanonicalTextIsFixedPointSpec.plain.varTypes Tryd.prog).any (Tryd.prog.mapsRec ·))) = true := by kernel_rfl
theorem c14 : ((Rows.fnReadStrDecimalCanonicalTextIsFixedPointRow.ifaces == (Tryd.f6.params.toList ++ Rows.fnReadStrDecimalCanonicalTextIsFixedPointSpec.plain.varTypes Tryd.prog).any (Tryd.prog.ifacesRec ·))) = true := by kernel_rfl
theorem c15 : ((Rows.fnReadStrDecimalCanonicalTextIsFixedPointRow.mapsOut == Tryd.prog.mapsAmong Tryd.f6.resultTypes.toList)) = true := by kernel_rfl
theorem c16 : ((Rows.fnReadStrDecimalCanonicalTextIsFixedPointRow.loops == (Tryd.f6.params.toList ++ Rows.fnReadStrDecimalCanonicalTextIsFixedPointSpec.plain.varTypes Tryd.prog).any (Tryd.prog.loopsFrom ·))) = true := by kernel_rfl
theorem c17 : ((Rows.fnReadStrDecimalCanonicalTextIsFixedPointRow.wideKeys == (Tryd.f6.params.toList ++ Rows.fnReadStrDecimalCanonicalTextIsFixedPointSpec.plain.varTypes Tryd.prog ++ Tryd.f6.resultTypes.toList).any (Tryd.prog.wideKeysFrom ·))) = true := by kernel_rfl
theorem c18 : (Rows.fnReadStrDecimalCanonicalTextIsFixedPointSpec.vars.all (Tryd.prog.varReadable ·)) = true := by kernel_rfl
theorem c19 : (Tryd.f6.resultTypes.all (fun t => Tryd.prog.readableRec t && decide (t < Tryd.prog.types.size))) = true := by kernel_rfl
theorem c20 : ((Rows.fnReadStrDecimalCanonicalTextIsFixedPointRow.ifacesOut == Tryd.f6.resultTypes.toList.any (Tryd.prog.ifacesRec ·))) = true := by kernel_rfl
theorem c21 : ((Rows.fnReadStrDecimalCanonicalTextIsFixedPointRow.loopsOut == Tryd.f6.resultTypes.toList.any (Tryd.prog.loopsFrom ·))) = true := by kernel_rfl
theorem c22 : ((Rows.fnReadStrDecimalCanonicalTextIsFixedPointRow.plainKeys == Tryd.prog.plainKeys)) = true := by kernel_rfl
theorem c23 : (Rows.fnReadStrDecimalCanonicalTextIsFixedPointRow.shortTexts.isNone) = true := by kernel_rfl
theorem c24 : (Tryd.prog.stopsHeard) = true := by kernel_rfl
theorem c25 : (Tryd.prog.mayEnter) = true := Head.mayEnter
theorem c26 : ((Rows.fnReadStrDecimalCanonicalTextIsFixedPointRow.lifted == Tryd.prog.liftsFinal)) = true := by rw [Head.liftsFinal]; rfl
theorem c27 : ((Tryd.prog.make == some Rows.fnReadStrDecimalCanonicalTextIsFixedPointRow.make)) = true := by rw [Head.make_cut]; rfl
theorem c28 : ((Rows.fnReadStrDecimalCanonicalTextIsFixedPointRow.kinds == (if Rows.fnReadStrDecimalCanonicalTextIsFixedPointRow.domain.isEmpty then [] else Tryd.f6.params.toList.map fun t => match Tryd.prog.underlying t with | some (.int k) => some k | _ => none))) = true := by kernel_rfl
theorem c29 : ((Rows.fnReadStrDecimalCanonicalTextIsFixedPointRow.pinned == Rows.fnReadStrDecimalCanonicalTextIsFixedPointRow.pinnedBy)) = true := by kernel_rfl
theorem c30 : ((Rows.fnReadStrDecimalCanonicalTextIsFixedPointRow.veiled == (Tryd.f6.params.toList ++ Rows.fnReadStrDecimalCanonicalTextIsFixedPointSpec.plain.varTypes Tryd.prog ++ Tryd.f6.resultTypes.toList).any (Tryd.prog.veiledRec ·))) = true := by kernel_rfl
theorem c31 : (Rows.fnReadStrDecimalCanonicalTextIsFixedPointRow.veiledFits Tryd.prog Tryd.f6.params.toList (Tryd.f6.params.toList ++ Rows.fnReadStrDecimalCanonicalTextIsFixedPointSpec.plain.varTypes Tryd.prog ++ Tryd.f6.resultTypes.toList)) = true := by kernel_rfl
set_option maxRecDepth 100000 in
theorem closed : joinedFacts Tryd.prog 6 Tryd.f6 Rows.fnReadStrDecimalCanonicalTextIsFixedPointSpec Rows.fnReadStrDecimalCanonicalTextIsFixedPointRow = true := by
  unfold joinedFacts
  simp only [Bool.and_eq_true]
  exact ⟨⟨⟨⟨⟨⟨⟨⟨⟨⟨⟨⟨⟨⟨⟨⟨⟨⟨⟨⟨⟨⟨⟨⟨⟨⟨⟨⟨⟨⟨⟨c0, c1⟩, c2⟩, c3⟩, c4⟩, c5⟩, c6⟩, c7⟩, c8⟩, c9⟩, c10⟩, c11⟩, c12⟩, c13⟩, c14⟩, c15⟩, c16⟩, c17⟩, c18⟩, c19⟩, c20⟩, c21⟩, c22⟩, c23⟩, c24⟩, c25⟩, c26⟩, c27⟩, c28⟩, c29⟩, c30⟩, c31⟩
theorem fn : Tryd.prog.funcNamed Rows.fnReadStrDecimalCanonicalTextIsFixedPointRow.func = some 6 := by kernel_rfl
theorem inst : Tryd.f6.isInstance Tryd.prog Rows.fnReadStrDecimalCanonicalTextIsFixedPointRow.origin Rows.fnReadStrDecimalCanonicalTextIsFixedPointRow.targs := of_decide_eq_true (by kernel_rfl)
theorem wrap : Tryd.f6.isWrapper Tryd.prog Rows.fnReadStrDecimalCanonicalTextIsFixedPointRow.wrapper Rows.fnReadStrDecimalCanonicalTextIsFixedPointRow.mainSum := by unfold Func.isWrapper; first | (rw [if_pos (by decide +kernel)]; kernel_rfl) | (rw [if_neg (by decide +kernel)]; exact ⟨rfl, rfl⟩)
theorem goes : false = Rows.fnReadStrDecimalCanonicalTextIsFixedPointRow.goesBy Tryd.prog := by kernel_rfl
theorem wft : Rows.fnReadStrDecimalCanonicalTextIsFixedPointRow.wfByText (OpenSpec.ofChange Rows.fnReadStrDecimalCanonicalTextIsFixedPointSpec) = true := by kernel_rfl
end Go.Proofs.Qxb6601790aDoor.Cf6
