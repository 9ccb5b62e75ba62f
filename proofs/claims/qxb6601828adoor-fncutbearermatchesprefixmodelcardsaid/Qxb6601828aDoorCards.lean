/-
  DERIVED. GIVEN WITH THE SEED: THE CARDS: each row of Qxb6601828aDoorRows.lean that lists a variable, with what it lists TIED to the program's text (the seventh form; the later family's looks); each row that meets fmt, with fmt's text TOLD by the authors' own Lean function (tested against real Go, not proved from fmt's source: count such statements apart). THE CARD IS WHAT COUNTS. Prove the row's statement (the work); the ties are given (Qxb6601828aDoorTie.lean); close each card by the builder's one call (the guide's Derived/Test/ToyasCard.lean, 'card_holds'). Laid BY PROGRAM, IN A SANDBOX (cutbox-door.mjs). By AI agents, Wed Nov 11 2026. No macro, syntax, notation, axiom, sorry.
-/
import Derived.Test.Qxb6601828aDoorRows
import GoSem.ClaimSeven
namespace Go.Proofs.Qxb6601828aDoor
namespace Rows

/-- THE TIED CARD OF 'zzlaws_pkg_header_b1.FnCutBearerMatchesPrefixModel'. -/
def fnCutBearerMatchesPrefixModelCard : Claim7 := { stood := { row := fnCutBearerMatchesPrefixModelRow, standIns := [], harness := (true, "023709560b0d8b72b55365685366aa2eb329ef17cffd834d8f6476ffb033c6d6"), looks := false }, kinds := [], alts := [], laidByText := true, laidKinds := [.data, .data, .data, .pinned, .pinned], laidTests := true, laidLooks := .later }
def FnCutBearerMatchesPrefixModelCardSaid : Prop := Claim7.holds Tryd.pinned (.plain (OpenSpec.ofChange fnCutBearerMatchesPrefixModelSpec)) fnCutBearerMatchesPrefixModelCard

/-- THE TIED CARD OF 'zzlaws_pkg_header_b1.FnCutBearerTakesOffEverySpelling'. -/
def fnCutBearerTakesOffEverySpellingCard : Claim7 := { stood := { row := fnCutBearerTakesOffEverySpellingRow, standIns := [], harness := (true, "023709560b0d8b72b55365685366aa2eb329ef17cffd834d8f6476ffb033c6d6"), looks := false }, kinds := [], alts := [], laidByText := true, laidKinds := [.data, .data, .data, .pinned, .pinned], laidTests := true, laidLooks := .later }
def FnCutBearerTakesOffEverySpellingCardSaid : Prop := Claim7.holds Tryd.pinned (.plain (OpenSpec.ofChange fnCutBearerTakesOffEverySpellingSpec)) fnCutBearerTakesOffEverySpellingCard
end Rows
end Go.Proofs.Qxb6601828aDoor
