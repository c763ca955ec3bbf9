/-
  DERIVED. GIVEN WITH THE SEED: THE CARDS: each row of YbulkejfmDoorRows.lean that lists a variable, with what it lists TIED to the program's text (the seventh form; the later family's looks); each row that meets fmt, with fmt's text TOLD by the authors' own Lean function (tested against real Go, not proved from fmt's source: count such statements apart). THE CARD IS WHAT COUNTS. Prove the row's statement (the work); the ties are given (YbulkejfmDoorTie.lean); close each card by the builder's one call (the guide's Derived/Test/ToyasCard.lean, 'card_holds'). Laid BY PROGRAM, IN A SANDBOX (cutbox-door.mjs). By AI agents, Wed Nov 11 2026. No macro, syntax, notation, axiom, sorry.
-/
import Derived.Test.YbulkejfmDoorRows
import GoSem.ClaimSeven
namespace Go.Proofs.YbulkejfmDoor
namespace Rows

/-- THE TIED CARD OF 'tpm.LawS6772AWhole'. -/
def lawS6772AWholeCard : Claim7 := { stood := { row := lawS6772AWholeRow, standIns := [], harness := (true, "c18162294041b5698cf29238c6e227f1d0a9d7f73a37fd91d813e16f595aeaa3"), looks := false }, kinds := [], alts := [], laidByText := true, laidKinds := [.mapped], laidTests := true, laidLooks := .later }
def LawS6772AWholeCardSaid : Prop := Claim7.holds Ybad.pinned (.plain (OpenSpec.ofChange lawS6772AWholeSpec)) lawS6772AWholeCard
end Rows
end Go.Proofs.YbulkejfmDoor
