/-
  DERIVED. GIVEN WITH THE SEED: THE CARDS: each row of Qxb6604040aDoorRows.lean that lists a variable, with what it lists TIED to the program's text (the seventh form; the later family's looks); each row that meets fmt, with fmt's text TOLD by the authors' own Lean function (tested against real Go, not proved from fmt's source: count such statements apart). THE CARD IS WHAT COUNTS. Prove the row's statement (the work); the ties are given (Qxb6604040aDoorTie.lean); close each card by the builder's one call (the guide's Derived/Test/ToyasCard.lean, 'card_holds'). Laid BY PROGRAM, IN A SANDBOX (cutbox-door.mjs). By AI agents, Wed Nov 11 2026. No macro, syntax, notation, axiom, sorry.
-/
import Derived.Test.Qxb6604040aDoorRows
import GoSem.ClaimSeven
namespace Go.Proofs.Qxb6604040aDoor
namespace Rows

/-- THE TIED CARD OF 'zzlaws_root_b1.FnHasMatchesListIgnoringLetterCase'. -/
def fnHasMatchesListIgnoringLetterCaseCard : Claim7 := { stood := { row := fnHasMatchesListIgnoringLetterCaseRow, standIns := [], harness := (true, "885455a491ee57efc27d76c1a8eae3ffa73fc474b2a7cbf3fd1c939f01c274e5"), looks := false }, kinds := [], alts := [], laidByText := true, laidKinds := [.listed, .data], laidTests := true, laidLooks := .later }
def FnHasMatchesListIgnoringLetterCaseCardSaid : Prop := Claim7.holds Tryd.pinned (.plain (OpenSpec.ofChange fnHasMatchesListIgnoringLetterCaseSpec)) fnHasMatchesListIgnoringLetterCaseCard

/-- THE TIED CARD OF 'zzlaws_root_b1.FnHasProbeAgreesWithScanAtEveryKey'. -/
def fnHasProbeAgreesWithScanAtEveryKeyCard : Claim7 := { stood := { row := fnHasProbeAgreesWithScanAtEveryKeyRow, standIns := [], harness := (true, "885455a491ee57efc27d76c1a8eae3ffa73fc474b2a7cbf3fd1c939f01c274e5"), looks := false }, kinds := [], alts := [], laidByText := true, laidKinds := [.listed, .data], laidTests := true, laidLooks := .later }
def FnHasProbeAgreesWithScanAtEveryKeyCardSaid : Prop := Claim7.holds Tryd.pinned (.plain (OpenSpec.ofChange fnHasProbeAgreesWithScanAtEveryKeySpec)) fnHasProbeAgreesWithScanAtEveryKeyCard

/-- THE TIED CARD OF 'zzlaws_root_b1.FnNewWordSetLaysEachWordInItsOwnSlot'. -/
def fnNewWordSetLaysEachWordInItsOwnSlotCard : Claim7 := { stood := { row := fnNewWordSetLaysEachWordInItsOwnSlotRow, standIns := [], harness := (true, "885455a491ee57efc27d76c1a8eae3ffa73fc474b2a7cbf3fd1c939f01c274e5"), looks := false }, kinds := [], alts := [], laidByText := true, laidKinds := [.listed, .data], laidTests := true, laidLooks := .later }
def FnNewWordSetLaysEachWordInItsOwnSlotCardSaid : Prop := Claim7.holds Tryd.pinned (.plain (OpenSpec.ofChange fnNewWordSetLaysEachWordInItsOwnSlotSpec)) fnNewWordSetLaysEachWordInItsOwnSlotCard
end Rows
end Go.Proofs.Qxb6604040aDoor
