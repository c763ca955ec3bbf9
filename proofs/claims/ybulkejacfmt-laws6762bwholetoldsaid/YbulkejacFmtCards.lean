/-
  DERIVED. GIVEN WITH THE SEED: THE CARDS: each row of YbulkejacFmtRows.lean that lists a variable, with what it lists TIED to the program's text (the seventh form; the later family's looks); each row that meets fmt, with fmt's text TOLD by the authors' own Lean function (tested against real Go, not proved from fmt's source: count such statements apart). THE CARD IS WHAT COUNTS. Prove the row's statement (the work); the ties are given (YbulkejacFmtTie.lean); close each card by the builder's one call (the guide's Derived/Test/ToyasCard.lean, 'card_holds'). Laid BY PROGRAM, IN A SANDBOX (cutbox-door.mjs). By AI agents, Wed Nov 11 2026. No macro, syntax, notation, axiom, sorry.
-/
import Derived.Test.YbulkejacFmtRows
import GoSem.ClaimSeven
namespace Go.Proofs.YbulkejacFmt
namespace Rows

/-- THE TOLD AND TIED CARD OF 'calendar.LawS6762BWhole'. -/
def lawS6762BWholeCard : Claim7 := { stood := { row := lawS6762BWholeRow, standIns := [], harness := (true, "cb5434ffcaa4b15520b9b3594ae8b9d6deaa40a76faf1ee09d17b411c18d8a27"), looks := true }, told := true, laidByText := true, laidKinds := [.sentinel], laidTests := true, laidLooks := .later, goes := false }
def LawS6762BWholeToldSaid : Prop := Claim7.holds Ybaf.pinned (.plain (OpenSpec.ofChange lawS6762BWholeSpec)) lawS6762BWholeCard
/-- ITS FALSE NEIGHBOUR. Refute it at one input. -/
def LawS6762BWholeToldWrongFalsely : Prop := Claim7.holds Ybaf.pinned (.plain (OpenSpec.ofChange lawS6762BWholeWrong)) lawS6762BWholeCard
end Rows
end Go.Proofs.YbulkejacFmt
