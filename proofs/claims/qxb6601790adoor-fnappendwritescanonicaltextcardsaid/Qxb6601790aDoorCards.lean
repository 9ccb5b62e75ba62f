/-
  DERIVED. GIVEN WITH THE SEED: THE CARDS: each row of Qxb6601790aDoorRows.lean that lists a variable, with what it lists TIED to the program's text (the seventh form; the later family's looks); each row that meets fmt, with fmt's text TOLD by the authors' own Lean function (tested against real Go, not proved from fmt's source: count such statements apart). THE CARD IS WHAT COUNTS. Prove the row's statement (the work); the ties are given (Qxb6601790aDoorTie.lean); close each card by the builder's one call (the guide's Derived/Test/ToyasCard.lean, 'card_holds'). Laid BY PROGRAM, IN A SANDBOX (cutbox-door.mjs). By AI agents, Wed Nov 11 2026. No macro, syntax, notation, axiom, sorry.
-/
import Derived.Test.Qxb6601790aDoorRows
import GoSem.ClaimSeven
namespace Go.Proofs.Qxb6601790aDoor
namespace Rows

/-- THE TIED CARD OF 'zzlaws_internal_decimal_b1.FnAddToMagnitudeIsDecimalSum'. -/
def fnAddToMagnitudeIsDecimalSumCard : Claim7 := { stood := { row := fnAddToMagnitudeIsDecimalSumRow, standIns := [], harness := (true, "748472739f37be6927576786c3c6401266ffeb3d372f931341b0f63cb621b557"), looks := false }, kinds := [], alts := [], laidByText := true, laidKinds := [.data, .data, .data, .data, .pinned], laidTests := true, laidLooks := .later }
def FnAddToMagnitudeIsDecimalSumCardSaid : Prop := Claim7.holds Tryd.pinned (.plain (OpenSpec.ofChange fnAddToMagnitudeIsDecimalSumSpec)) fnAddToMagnitudeIsDecimalSumCard

/-- THE TIED CARD OF 'zzlaws_internal_decimal_b1.FnAddToMagnitudeSubtractingUndoes'. -/
def fnAddToMagnitudeSubtractingUndoesCard : Claim7 := { stood := { row := fnAddToMagnitudeSubtractingUndoesRow, standIns := [], harness := (true, "748472739f37be6927576786c3c6401266ffeb3d372f931341b0f63cb621b557"), looks := false }, kinds := [], alts := [], laidByText := true, laidKinds := [.data, .data, .data, .data, .pinned], laidTests := true, laidLooks := .later }
def FnAddToMagnitudeSubtractingUndoesCardSaid : Prop := Claim7.holds Tryd.pinned (.plain (OpenSpec.ofChange fnAddToMagnitudeSubtractingUndoesSpec)) fnAddToMagnitudeSubtractingUndoesCard

/-- THE TIED CARD OF 'zzlaws_internal_decimal_b1.FnReadStrDecimalMatchesGrammarAndValue'. -/
def fnReadStrDecimalMatchesGrammarAndValueCard : Claim7 := { stood := { row := fnReadStrDecimalMatchesGrammarAndValueRow, standIns := [], harness := (true, "748472739f37be6927576786c3c6401266ffeb3d372f931341b0f63cb621b557"), looks := false }, kinds := [], alts := [], laidByText := true, laidKinds := [.data, .data, .data, .data, .pinned], laidTests := true, laidLooks := .later }
def FnReadStrDecimalMatchesGrammarAndValueCardSaid : Prop := Claim7.holds Tryd.pinned (.plain (OpenSpec.ofChange fnReadStrDecimalMatchesGrammarAndValueSpec)) fnReadStrDecimalMatchesGrammarAndValueCard

/-- THE TIED CARD OF 'zzlaws_internal_decimal_b1.FnReadStrDecimalCanonicalTextIsFixedPoint'. -/
def fnReadStrDecimalCanonicalTextIsFixedPointCard : Claim7 := { stood := { row := fnReadStrDecimalCanonicalTextIsFixedPointRow, standIns := [], harness := (true, "748472739f37be6927576786c3c6401266ffeb3d372f931341b0f63cb621b557"), looks := false }, kinds := [], alts := [], laidByText := true, laidKinds := [.data, .data, .data, .data, .pinned], laidTests := true, laidLooks := .later }
def FnReadStrDecimalCanonicalTextIsFixedPointCardSaid : Prop := Claim7.holds Tryd.pinned (.plain (OpenSpec.ofChange fnReadStrDecimalCanonicalTextIsFixedPointSpec)) fnReadStrDecimalCanonicalTextIsFixedPointCard

/-- THE TIED CARD OF 'zzlaws_internal_decimal_b1.FnReadStrDecimalLeadingZeroChangesNothing'. -/
def fnReadStrDecimalLeadingZeroChangesNothingCard : Claim7 := { stood := { row := fnReadStrDecimalLeadingZeroChangesNothingRow, standIns := [], harness := (true, "748472739f37be6927576786c3c6401266ffeb3d372f931341b0f63cb621b557"), looks := false }, kinds := [], alts := [], laidByText := true, laidKinds := [.data, .data, .data, .data, .pinned], laidTests := true, laidLooks := .later }
def FnReadStrDecimalLeadingZeroChangesNothingCardSaid : Prop := Claim7.holds Tryd.pinned (.plain (OpenSpec.ofChange fnReadStrDecimalLeadingZeroChangesNothingSpec)) fnReadStrDecimalLeadingZeroChangesNothingCard

/-- THE TIED CARD OF 'zzlaws_internal_decimal_b1.FnAppendWritesCanonicalText'. -/
def fnAppendWritesCanonicalTextCard : Claim7 := { stood := { row := fnAppendWritesCanonicalTextRow, standIns := [], harness := (true, "748472739f37be6927576786c3c6401266ffeb3d372f931341b0f63cb621b557"), looks := false }, kinds := [], alts := [], laidByText := true, laidKinds := [.data, .data, .data, .data, .pinned], laidTests := true, laidLooks := .later }
def FnAppendWritesCanonicalTextCardSaid : Prop := Claim7.holds Tryd.pinned (.plain (OpenSpec.ofChange fnAppendWritesCanonicalTextSpec)) fnAppendWritesCanonicalTextCard

/-- THE TIED CARD OF 'zzlaws_internal_decimal_b1.FnAppendTextReadsBackAsSameNumber'. -/
def fnAppendTextReadsBackAsSameNumberCard : Claim7 := { stood := { row := fnAppendTextReadsBackAsSameNumberRow, standIns := [], harness := (true, "748472739f37be6927576786c3c6401266ffeb3d372f931341b0f63cb621b557"), looks := false }, kinds := [], alts := [], laidByText := true, laidKinds := [.data, .data, .data, .data, .pinned], laidTests := true, laidLooks := .later }
def FnAppendTextReadsBackAsSameNumberCardSaid : Prop := Claim7.holds Tryd.pinned (.plain (OpenSpec.ofChange fnAppendTextReadsBackAsSameNumberSpec)) fnAppendTextReadsBackAsSameNumberCard
end Rows
end Go.Proofs.Qxb6601790aDoor
