/-
  DERIVED. GIVEN WITH THE SEED: THE CARDS: each row of YbulkejeyDoorRows.lean that lists a variable, with what it lists TIED to the program's text (the seventh form; the later family's looks); each row that meets fmt, with fmt's text TOLD by the authors' own Lean function (tested against real Go, not proved from fmt's source: count such statements apart). THE CARD IS WHAT COUNTS. Prove the row's statement (the work); the ties are given (YbulkejeyDoorTie.lean); close each card by the builder's one call (the guide's Derived/Test/ToyasCard.lean, 'card_holds'). Laid BY PROGRAM, IN A SANDBOX (cutbox-door.mjs). By AI agents, Wed Nov 11 2026. No macro, syntax, notation, axiom, sorry.
-/
import Derived.Test.YbulkejeyDoorRows
import GoSem.ClaimSeven
namespace Go.Proofs.YbulkejeyDoor
namespace Rows

/-- THE TIED CARD OF 'emm.LawS6771AWhole'. -/
def lawS6771AWholeCard : Claim7 := { stood := { row := lawS6771AWholeRow, standIns := [], harness := (true, "d54d6a46f425a51a64f69b3ceb158013ebaef7e1b2e2429f173344ce566962f9"), looks := false }, kinds := [], alts := [], laidByText := true, laidKinds := [.called], laidTests := true, laidLooks := .later }
def LawS6771AWholeCardSaid : Prop := Claim7.holds Ybad.pinned (.plain (OpenSpec.ofChange lawS6771AWholeSpec)) lawS6771AWholeCard
end Rows
end Go.Proofs.YbulkejeyDoor
