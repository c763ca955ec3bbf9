/-
  No cell of these rows narrows 'for every input' (looked for: loops, veiled, ifaces, maps, wideKeys, modest, calm, conditions, laid).
  DERIVED. THE GIVEN ROWS OF THIS SEAT. 1 by the template 'for every input the law returns true; each argument reads behind the call as it read before'; 0 by the template 'total and deterministic' (their statements: YbulkejekTotals.lean).
  GIVEN WITH THE SEED: the statements are not yours to turn. If you find one false, say at which input.
  Laid BY PROGRAM, IN A SANDBOX (cutbox-rows.mjs): the forced cells as the released guide's own fill.sh prints them over the translation e0cd8d7bd16b9cdf… (all of the seat's roots in one cut). By AI agents, Wed Nov 11 2026. No macro, syntax, notation, axiom, sorry.
-/
import Derived.Test.YbulkejekChecked
import GoSem.Claim
import GoSem.ClaimJoined
import GoSem.ClaimMapViews
import Derived.JoinedTies
import Derived.KernelRfl
namespace Go.Proofs.Ybulkejek
/- THE CELL 'sum', in the pinned program and in every row, IS THE sha256 OF THE DUMP (.gsa) THAT YbulkejekProg.lean LOADS. Nothing in Lean hashes anything: it is a label: what it is worth is what the hold of that sum in a sandbox is worth. -/
noncomputable def Yba.pinned : Pinned := { name := "ybulkejek", sum := "e0cd8d7bd16b9cdfb5502be736de979470d5842e511e35b6d98370e7e964ff83", checked := Yba.checked }
namespace Rows
def none {H : Type} : Left H := { results := [], args := [] }

/-- 'backfill.LawS6770AWhole': WHATEVER THE INPUT: true; the input reads as it did. -/
def lawS6770AWholeSpec : ChangeSpec := { name := "lawS6770AWhole", fn := fun _ => fun
  | [d1, d2] => { results := [.lit (.bool true)], args := [d1, d2] }
  | _ => none }
def lawS6770AWholeRow : OpenClaim := { program := "ybulkejek", sum := "e0cd8d7bd16b9cdfb5502be736de979470d5842e511e35b6d98370e7e964ff83", func := "example.com/backfill/backfill.LawS6770AWhole", spec := "lawS6770AWhole", apart := false }
def LawS6770AWholeSaid : Prop := lawS6770AWholeRow.holds Yba.pinned (OpenSpec.ofChange lawS6770AWholeSpec)

/-- ITS FALSE NEIGHBOUR: 'it returns false'. Refute it at one input. -/
def lawS6770AWholeWrong : ChangeSpec := { name := "lawS6770AWhole", fn := fun _ => fun
  | [d1, d2] => { results := [.lit (.bool false)], args := [d1, d2] }
  | _ => none }
def LawS6770AWholeWrongFalsely : Prop := lawS6770AWholeRow.holds Yba.pinned (OpenSpec.ofChange lawS6770AWholeWrong)

end Rows
end Go.Proofs.Ybulkejek
