/-
  The closed facts of the row, one by one (the kernel reckons each by itself).
-/
import Derived.Test.Qxb6601790aDoorRows
import Derived.Test.Qxb6601790aDoorHead
import Derived.ProofKit
namespace Go.Proofs.Qxb6601790aDoor.Cf8
open Go.ChangeShapes Go.WideShapes Go.ChangeAt Go.RowKit
theorem c0 : (Rows.fnAppendWritesCanonicalTextRow.wf (OpenSpec.ofChange Rows.fnAppendWritesCanonicalTextSpec)) = true := by kernel_rfl
theorem c1 : (laidOutB Tryd.prog) = true := by kernel_rfl
theorem c2 : (mapsRowed Tryd.prog) = true := by kernel_rfl
theorem c3 : (Tryd.f8.params.all (Tryd.prog.readableRec ·)) = true := by kernel_rfl
theorem c4 : (namedTie Tryd.prog Rows.fnAppendWritesCanonicalTextRow.named Rows.fnAppendWritesCanonicalTextSpec.vars) = true := by kernel_rfl
theorem c5 : ((Rows.fnAppendWritesCanonicalTextRow.stops == [])) = true := by kernel_rfl
theorem c6 : ((Tryd.prog.stops == [])) = true := by kernel_rfl
theorem c7 : ((Rows.fnAppendWritesCanonicalTextRow.knobs == [])) = true := by kernel_rfl
theorem c8 : ((Tryd.prog.stopKnobs == [])) = true := by kernel_rfl
theorem c9 : ((Rows.fnAppendWritesCanonicalTextRow.inPlace == Tryd.prog.inPlace 8)) = true := by kernel_rfl
theorem c10 : ((Rows.fnAppendWritesCanonicalTextRow.unfollowed == Tryd.prog.unfollowed 8)) = true := by kernel_rfl
theorem c11 : ((Rows.fnAppendWritesCanonicalTextRow.recurses == Tryd.prog.recurses 8)) = true := by kernel_rfl
theorem c12 : ((Rows.fnAppendWritesCanonicalTextRow.named == Tryd.prog.varsNamed 8)) = true := by kernel_rfl
theorem c13 : ((Rows.fnAppendWritesCanonicalTextRow.maps == (Tryd.f8.params.toList ++ Rows.fnAppendWritesCanonicalTextSpec.plain.varTypes Tryd.prog).any (Tryd.prog.mapsRec ·))) = true := by kernel_rfl
theorem c14 : ((Rows.fnAppendWritesCanonicalTextRow.ifaces == (Tryd.f8.params.toList ++ Rows.fnAppendWritesCanonicalTextSpec.plain.varTypes Tryd.prog).any (Tryd.prog.ifacesRec ·))) = true := by kernel_rfl
theorem c15 : ((Rows.fnAppendWritesCanonicalTextRow.mapsOut == Tryd.prog.mapsAmong Tryd.f8.resultTypes.toList)) = true := by kernel_rfl
theorem c16 : ((Rows.fnAppendWritesCanonicalTextRow.loops == (Tryd.f8.params.toList ++ Rows.fnAppendWritesCanonicalTextSpec.plain.varTypes Tryd.prog).any (Tryd.prog.loopsFrom ·))) = true := by kernel_rfl
theorem c17 : ((Rows.fnAppendWritesCanonicalTextRow.wideKeys == (Tryd.f8.params.toList ++ Rows.fnAppendWritesCanonicalTextSpec.plain.varTypes Tryd.prog ++ Tryd.f8.resultTypes.toList).any (Tryd.prog.wideKeysFrom ·))) = true := by kernel_rfl
theorem c18 : (Rows.fnAppendWritesCanonicalTextSpec.vars.all (Tryd.prog.varReadable ·)) = true := by kernel_rfl
theorem c19 : (Tryd.f8.resultTypes.all (fun t => Tryd.prog.readableRec t && decide (t < Tryd.prog.types.size))) = true := by kernel_rfl
theorem c20 : ((Rows.fnAppendWritesCanonicalTextRow.ifacesOut == Tryd.f8.resultTypes.toList.any (Tryd.prog.ifacesRec ·))) = true := by kernel_rfl
theorem c21 : ((Rows.fnAppendWritesCanonicalTextRow.loopsOut == Tryd.f8.resultTypes.toList.any (Tryd.prog.loopsFrom ·))) = true := by kernel_rfl
theorem c22 : ((Rows.fnAppendWritesCanonicalTextRow.plainKeys == Tryd.prog.plainKeys)) = true := by kernel_rfl
theorem c23 : (Rows.fnAppendWritesCanonicalTextRow.shortTexts.isNone) = true := by kernel_rfl
theorem c24 : (Tryd.prog.stopsHeard) = true := by kernel_rfl
theorem c25 : (Tryd.prog.mayEnter) = true := Head.mayEnter
theorem c26 : ((Rows.fnAppendWritesCanonicalTextRow.lifted == Tryd.prog.liftsFinal)) = true := by rw [Head.liftsFinal]; rfl
theorem c27 : ((Tryd.prog.make == some Rows.fnAppendWritesCanonicalTextRow.make)) = true := by rw [Head.make_cut]; rfl
theorem c28 : ((Rows.fnAppendWritesCanonicalTextRow.kinds == (if Rows.fnAppendWritesCanonicalTextRow.domain.isEmpty then [] else Tryd.f8.params.toList.map fun t => match Tryd.prog.underlying t with | some (.int k) => some k | _ => none))) = true := by kernel_rfl
theorem c29 : ((Rows.fnAppendWritesCanonicalTextRow.pinned == Rows.fnAppendWritesCanonicalTextRow.pinnedBy)) = true := by kernel_rfl
theorem c30 : ((Rows.fnAppendWritesCanonicalTextRow.veiled == (Tryd.f8.params.toList ++ Rows.fnAppendWritesCanonicalTextSpec.plain.varTypes Tryd.prog ++ Tryd.f8.resultTypes.toList).any (Tryd.prog.veiledRec ·))) = true := by kernel_rfl
theorem c31 : (Rows.fnAppendWritesCanonicalTextRow.veiledFits Tryd.prog Tryd.f8.params.toList (Tryd.f8.params.toList ++ Rows.fnAppendWritesCanonicalTextSpec.plain.varTypes Tryd.prog ++ Tryd.f8.resultTypes.toList)) = true := by kernel_rfl
set_option maxRecDepth 100000 in
theorem closed : joinedFacts Tryd.prog 8 Tryd.f8 Rows.fnAppendWritesCanonicalTextSpec Rows.fnAppendWritesCanonicalTextRow = true := by
  unfold joinedFacts
  simp only [Bool.and_eq_true]
  exact ⟨⟨⟨⟨⟨⟨⟨⟨⟨⟨⟨⟨⟨⟨⟨⟨⟨⟨⟨⟨⟨⟨⟨⟨⟨⟨⟨⟨⟨⟨⟨c0, c1⟩, c2⟩, c3⟩, c4⟩, c5⟩, c6⟩, c7⟩, c8⟩, c9⟩, c10⟩, c11⟩, c12⟩, c13⟩, c14⟩, c15⟩, c16⟩, c17⟩, c18⟩, c19⟩, c20⟩, c21⟩, c22⟩, c23⟩, c24⟩, c25⟩, c26⟩, c27⟩, c28⟩, c29⟩, c30⟩, c31⟩
theorem fn : Tryd.prog.funcNamed Rows.fnAppendWritesCanonicalTextRow.func = some 8 := by kernel_rfl
theorem inst : Tryd.f8.isInstance Tryd.prog Rows.fnAppendWritesCanonicalTextRow.origin Rows.fnAppendWritesCanonicalTextRow.targs := of_decide_eq_true (by kernel_rfl)
theorem wrap : Tryd.f8.isWrapper Tryd.prog Rows.fnAppendWritesCanonicalTextRow.wrapper Rows.fnAppendWritesCanonicalTextRow.mainSum := by unfold Func.isWrapper; first | (rw [if_pos (by decide +kernel)]; kernel_rfl) | (rw [if_neg (by decide +kernel)]; exact ⟨rfl, rfl⟩)
theorem goes : false = Rows.fnAppendWritesCanonicalTextRow.goesBy Tryd.prog := by kernel_rfl
theorem wft : Rows.fnAppendWritesCanonicalTextRow.wfByText (OpenSpec.ofChange Rows.fnAppendWritesCanonicalTextSpec) = true := by kernel_rfl
end Go.Proofs.Qxb6601790aDoor.Cf8
