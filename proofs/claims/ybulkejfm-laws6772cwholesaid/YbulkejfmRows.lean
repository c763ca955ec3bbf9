/-
  No cell of these rows narrows 'for every input' (looked for: loops, veiled, ifaces, maps, wideKeys, modest, calm, conditions, laid).
  DERIVED. THE GIVEN ROWS OF THIS SEAT. 1 by the template 'for every input the law returns true; each argument reads behind the call as it read before'; 0 by the template 'total and deterministic' (their statements: YbulkejfmTotals.lean).
  GIVEN WITH THE SEED: the statements are not yours to turn. If you find one false, say at which input.
  Laid BY PROGRAM, IN A SANDBOX (cutbox-rows.mjs): the forced cells as the released guide's own fill.sh prints them over the translation 9acda93268b6848f… (all of the seat's roots in one cut). By AI agents, Wed Nov 11 2026. No macro, syntax, notation, axiom, sorry.
-/
import Derived.Test.YbulkejfmChecked
import GoSem.Claim
import GoSem.ClaimJoined
import GoSem.ClaimMapViews
import Derived.JoinedTies
import Derived.KernelRfl
namespace Go.Proofs.Ybulkejfm
/- THE CELL 'sum', in the pinned program and in every row, IS THE sha256 OF THE DUMP (.gsa) THAT YbulkejfmProg.lean LOADS. Nothing in Lean hashes anything: it is a label: what it is worth is what the hold of that sum in a sandbox is worth. -/
noncomputable def Yba.pinned : Pinned := { name := "ybulkejfm", sum := "9acda93268b6848fe59901da4276f262ab882ae89ec18df20fcaac9c7578762d", checked := Yba.checked }
namespace Rows
def none {H : Type} : Left H := { results := [], args := [] }

/-- 'verify.LawS6772CWhole': WHATEVER THE INPUT: true; the input reads as it did. -/
def lawS6772CWholeSpec : ChangeSpec := { name := "lawS6772CWhole", fn := fun _ => fun
  | [d1, d2, d3] => { results := [.lit (.bool true)], args := [d1, d2, d3] }
  | _ => none }
def lawS6772CWholeRow : OpenClaim := { program := "ybulkejfm", sum := "9acda93268b6848fe59901da4276f262ab882ae89ec18df20fcaac9c7578762d", func := "example.com/quote-to-verdict/quote-to-verdict/internal/verify.LawS6772CWhole", spec := "lawS6772CWhole", apart := false }
def LawS6772CWholeSaid : Prop := lawS6772CWholeRow.holds Yba.pinned (OpenSpec.ofChange lawS6772CWholeSpec)

/-- ITS FALSE NEIGHBOUR: 'it returns false'. Refute it at one input. -/
def lawS6772CWholeWrong : ChangeSpec := { name := "lawS6772CWhole", fn := fun _ => fun
  | [d1, d2, d3] => { results := [.lit (.bool false)], args := [d1, d2, d3] }
  | _ => none }
def LawS6772CWholeWrongFalsely : Prop := lawS6772CWholeRow.holds Yba.pinned (OpenSpec.ofChange lawS6772CWholeWrong)

end Rows
end Go.Proofs.Ybulkejfm
