/-
  NARROWER THAN 'FOR EVERY INPUT', by the rows' own cells (each row's printed sentence says how): LawS6762BWhole: ifaces, laid.
  DERIVED. THE GIVEN ROWS OF THIS SEAT. 1 by the template 'for every input the law returns true; each argument reads behind the call as it read before'; 0 by the template 'total and deterministic' (their statements: YbulkejacFmtTotals.lean).
  GIVEN WITH THE SEED: the statements are not yours to turn. If you find one false, say at which input.
  Laid BY PROGRAM, IN A SANDBOX (cutbox-rows.mjs): the forced cells as the released guide's own fill.sh prints them over the translation 1936c7dab80ee680… (all of the seat's roots in one cut). By AI agents, Wed Nov 11 2026. No macro, syntax, notation, axiom, sorry.
-/
import Derived.Test.YbulkejacFmtChecked
import GoSem.Claim
import GoSem.ClaimJoined
import GoSem.ClaimMapViews
import Derived.JoinedTies
import Derived.KernelRfl
namespace Go.Proofs.YbulkejacFmt
/- THE CELL 'sum', in the pinned program and in every row, IS THE sha256 OF THE DUMP (.gsa) THAT YbulkejacFmtProg.lean LOADS. Nothing in Lean hashes anything: it is a label: what it is worth is what the hold of that sum in a sandbox is worth. -/
noncomputable def Ybaf.pinned : Pinned := { name := "ybulkejacfmt", sum := "1936c7dab80ee680ba1ffeeec8b3bf862541cdb3c9477df3890d995392393efc", checked := Ybaf.checked }
namespace Rows
def none {H : Type} : Left H := { results := [], args := [] }

/- WHAT THE LISTED PACKAGE-LEVEL VARIABLES READ AS WHEN THE CALL BEGINS. Each datum BY PROGRAM (the guide's laid-datum.mjs) off the statement by which the dump's own 'gosem.cut.vars' lays the variable. In a bare row this is a premise. The card (YbulkejacFmtCards.lean) ties it to the program's text. -/
def laid_example_com_tessera_tessera_calendar_ErrNotFound {H : Type} : DataW H := .iface "*errors.errorString" (.ptr (.agg [.lit (.string [110, 111, 116, 32, 102, 111, 117, 110, 100])]))

/-- 'calendar.LawS6762BWhole': WHATEVER THE INPUT: true; the input reads as it did. -/
def lawS6762BWholeSpec : ChangeSpec := { name := "lawS6762BWhole", vars := ["example.com/tessera/tessera/calendar.ErrNotFound"], fn := fun _ => fun
  | [d1, d2, d3, g1] => { results := [.lit (.bool true)], args := [d1, d2, d3], vars := [g1] }
  | _ => none }
def lawS6762BWholeRow : OpenClaim := { program := "ybulkejacfmt", sum := "1936c7dab80ee680ba1ffeeec8b3bf862541cdb3c9477df3890d995392393efc", func := "example.com/tessera/tessera/calendar.LawS6762BWhole", spec := "lawS6762BWhole", stops := ["fmt.errorf"], inPlace := ["fmt.errorf", "internal/reflectlite.TypeOf"], unfollowed := true, recurses := true, named := ["example.com/tessera/tessera/calendar.ErrNotFound"], ifaces := true, apart := false, laid := [("example.com/tessera/tessera/calendar.ErrNotFound", laid_example_com_tessera_tessera_calendar_ErrNotFound)] }
/-- NO THEOREM (fmt's text is open here; it may be false): for the released tool's asking of the row's closed facts alone. THE STATEMENT IS 'LawS6762BWholeToldSaid' (YbulkejacFmtCards.lean). -/
def LawS6762BWholeFormAsk : Prop := lawS6762BWholeRow.holds Ybaf.pinned (OpenSpec.ofChange lawS6762BWholeSpec)

/-- ITS FALSE NEIGHBOUR: 'it returns false'. Refute it at one input. -/
def lawS6762BWholeWrong : ChangeSpec := { name := "lawS6762BWhole", vars := ["example.com/tessera/tessera/calendar.ErrNotFound"], fn := fun _ => fun
  | [d1, d2, d3, g1] => { results := [.lit (.bool false)], args := [d1, d2, d3], vars := [g1] }
  | _ => none }
def LawS6762BWholeWrongFormAsk : Prop := lawS6762BWholeRow.holds Ybaf.pinned (OpenSpec.ofChange lawS6762BWholeWrong)

end Rows
end Go.Proofs.YbulkejacFmt
