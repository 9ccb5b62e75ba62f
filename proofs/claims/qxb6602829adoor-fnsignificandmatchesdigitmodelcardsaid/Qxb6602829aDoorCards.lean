/-
  DERIVED. GIVEN WITH THE SEED: THE CARDS: each row of Qxb6602829aDoorRows.lean that lists a variable, with what it lists TIED to the program's text (the seventh form; the later family's looks); each row that meets fmt, with fmt's text TOLD by the authors' own Lean function (tested against real Go, not proved from fmt's source: count such statements apart). THE CARD IS WHAT COUNTS. Prove the row's statement (the work); the ties are given (Qxb6602829aDoorTie.lean); close each card by the builder's one call (the guide's Derived/Test/ToyasCard.lean, 'card_holds'). Laid BY PROGRAM, IN A SANDBOX (cutbox-door.mjs). By AI agents, Wed Nov 11 2026. No macro, syntax, notation, axiom, sorry.
-/
import Derived.Test.Qxb6602829aDoorRows
import GoSem.ClaimSeven
namespace Go.Proofs.Qxb6602829aDoor
namespace Rows

/-- THE TIED CARD OF 'zzlaws_pkg_amount_b1.FnSignificandMatchesDigitModel'. -/
def fnSignificandMatchesDigitModelCard : Claim7 := { stood := { row := fnSignificandMatchesDigitModelRow, standIns := [], harness := (true, "494eb0764b3213df04a862f568484ca116b4a05981f3258b4631ed2c179eb62d"), looks := false }, kinds := [], alts := [], laidByText := true, laidKinds := [.data, .pinned], laidTests := true, laidLooks := .later }
def FnSignificandMatchesDigitModelCardSaid : Prop := Claim7.holds Tryd.pinned (.plain (OpenSpec.ofChange fnSignificandMatchesDigitModelSpec)) fnSignificandMatchesDigitModelCard
end Rows
end Go.Proofs.Qxb6602829aDoor
