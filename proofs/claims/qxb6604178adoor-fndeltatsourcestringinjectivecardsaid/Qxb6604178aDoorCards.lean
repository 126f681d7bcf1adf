/-
  DERIVED. GIVEN WITH THE SEED: THE CARDS: each row of Qxb6604178aDoorRows.lean that lists a variable, with what it lists TIED to the program's text (the seventh form; the later family's looks); each row that meets fmt, with fmt's text TOLD by the authors' own Lean function (tested against real Go, not proved from fmt's source: count such statements apart). THE CARD IS WHAT COUNTS. Prove the row's statement (the work); the ties are given (Qxb6604178aDoorTie.lean); close each card by the builder's one call (the guide's Derived/Test/ToyasCard.lean, 'card_holds'). Laid BY PROGRAM, IN A SANDBOX (cutbox-door.mjs). By AI agents, Wed Nov 11 2026. No macro, syntax, notation, axiom, sorry.
-/
import Derived.Test.Qxb6604178aDoorRows
import GoSem.ClaimSeven
namespace Go.Proofs.Qxb6604178aDoor
namespace Rows

/-- THE TIED CARD OF 'zzlaws_root_b1.FnDeltaTSourceStringInjective'. -/
def fnDeltaTSourceStringInjectiveCard : Claim7 := { stood := { row := fnDeltaTSourceStringInjectiveRow, standIns := [], harness := (true, "7f267806c6cd06627443edce140da374902d62f75f674103770c7cf7473b97d5"), looks := false }, kinds := [], alts := [], laidByText := true, laidKinds := [.data, .data, .data], laidTests := true, laidLooks := .later }
def FnDeltaTSourceStringInjectiveCardSaid : Prop := Claim7.holds Tryd.pinned (.plain (OpenSpec.ofChange fnDeltaTSourceStringInjectiveSpec)) fnDeltaTSourceStringInjectiveCard
end Rows
end Go.Proofs.Qxb6604178aDoor
