/-
  No cell of these rows narrows 'for every input' (looked for: loops, veiled, ifaces, maps, wideKeys, modest, calm, conditions, laid).
  DERIVED. THE GIVEN ROWS OF THIS SEAT. 1 by the template 'for every input the law returns true; each argument reads behind the call as it read before'; 0 by the template 'total and deterministic' (their statements: YbulkejeyTotals.lean).
  GIVEN WITH THE SEED: the statements are not yours to turn. If you find one false, say at which input.
  Laid BY PROGRAM, IN A SANDBOX (cutbox-rows.mjs): the forced cells as the released guide's own fill.sh prints them over the translation 4b27b4071acb8887… (all of the seat's roots in one cut). By AI agents, Wed Nov 11 2026. No macro, syntax, notation, axiom, sorry.
-/
import Derived.Test.YbulkejeyChecked
import GoSem.Claim
import GoSem.ClaimJoined
import GoSem.ClaimMapViews
import Derived.JoinedTies
import Derived.KernelRfl
namespace Go.Proofs.Ybulkejey
/- THE CELL 'sum', in the pinned program and in every row, IS THE sha256 OF THE DUMP (.gsa) THAT YbulkejeyProg.lean LOADS. Nothing in Lean hashes anything: it is a label: what it is worth is what the hold of that sum in a sandbox is worth. -/
noncomputable def Yba.pinned : Pinned := { name := "ybulkejey", sum := "4b27b4071acb888741c2ff78713a718eada36c1d28be0762ddff26f3311ad374", checked := Yba.checked }
namespace Rows
def none {H : Type} : Left H := { results := [], args := [] }

/-- 'emm.LawS6771BWhole': WHATEVER THE INPUT: true; the input reads as it did. -/
def lawS6771BWholeSpec : ChangeSpec := { name := "lawS6771BWhole", fn := fun _ => fun
  | [d1, d2, d3, d4] => { results := [.lit (.bool true)], args := [d1, d2, d3, d4] }
  | _ => none }
def lawS6771BWholeRow : OpenClaim := { program := "ybulkejey", sum := "4b27b4071acb888741c2ff78713a718eada36c1d28be0762ddff26f3311ad374", func := "example.com/ambit-nas/ambit-nas/emm.LawS6771BWhole", spec := "lawS6771BWhole", apart := false }
def LawS6771BWholeSaid : Prop := lawS6771BWholeRow.holds Yba.pinned (OpenSpec.ofChange lawS6771BWholeSpec)

/-- ITS FALSE NEIGHBOUR: 'it returns false'. Refute it at one input. -/
def lawS6771BWholeWrong : ChangeSpec := { name := "lawS6771BWhole", fn := fun _ => fun
  | [d1, d2, d3, d4] => { results := [.lit (.bool false)], args := [d1, d2, d3, d4] }
  | _ => none }
def LawS6771BWholeWrongFalsely : Prop := lawS6771BWholeRow.holds Yba.pinned (OpenSpec.ofChange lawS6771BWholeWrong)

end Rows
end Go.Proofs.Ybulkejey
