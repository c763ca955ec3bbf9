/-
  NARROWER THAN 'FOR EVERY INPUT', by the rows' own cells (each row's printed sentence says how): LawS6772AWhole: maps, laid.
  DERIVED. THE GIVEN ROWS OF THIS SEAT. 1 by the template 'for every input the law returns true; each argument reads behind the call as it read before'; 0 by the template 'total and deterministic' (their statements: YbulkejfmDoorTotals.lean).
  GIVEN WITH THE SEED: the statements are not yours to turn. If you find one false, say at which input.
  Laid BY PROGRAM, IN A SANDBOX (cutbox-rows.mjs): the forced cells as the released guide's own fill.sh prints them over the translation 073df8b6f6273cee… (all of the seat's roots in one cut). By AI agents, Wed Nov 11 2026. No macro, syntax, notation, axiom, sorry.
-/
import Derived.Test.YbulkejfmDoorChecked
import GoSem.Claim
import GoSem.ClaimJoined
import GoSem.ClaimMapViews
import Derived.JoinedTies
import Derived.KernelRfl
namespace Go.Proofs.YbulkejfmDoor
/- THE CELL 'sum', in the pinned program and in every row, IS THE sha256 OF THE DUMP (.gsa) THAT YbulkejfmDoorProg.lean LOADS. Nothing in Lean hashes anything: it is a label: what it is worth is what the hold of that sum in a sandbox is worth. -/
noncomputable def Ybad.pinned : Pinned := { name := "ybulkejfmdoor", sum := "073df8b6f6273cee59ce0b46d7f881289af39d09ed66586f2f8b9fdcf8c1f5c9", checked := Ybad.checked }
namespace Rows
def none {H : Type} : Left H := { results := [], args := [] }

/- WHAT THE LISTED PACKAGE-LEVEL VARIABLES READ AS WHEN THE CALL BEGINS. Each datum BY PROGRAM (the guide's laid-datum.mjs) off the statement by which the dump's own 'gosem.cut.vars' lays the variable. In a bare row this is a premise. The card (YbulkejfmDoorCards.lean) ties it to the program's text. -/
def laid_example_com_quote_to_verdict_quote_to_verdict_internal_tpm_algs {H : Type} : DataW H := .map [(.int .u16 1, .agg [.lit (.string [114, 115, 97]), .lit (.int .u64 0), .lit (.int .u16 0)]), (.int .u16 4, .agg [.lit (.string [115, 104, 97, 49]), .lit (.int .u64 3), .lit (.int .u16 0)]), (.int .u16 5, .agg [.lit (.string [104, 109, 97, 99]), .lit (.int .u64 0), .lit (.int .u16 8)]), (.int .u16 6, .agg [.lit (.string [97, 101, 115]), .lit (.int .u64 0), .lit (.int .u16 0)]), (.int .u16 8, .agg [.lit (.string [107, 101, 121, 101, 100, 104, 97, 115, 104]), .lit (.int .u64 0), .lit (.int .u16 0)]), (.int .u16 11, .agg [.lit (.string [115, 104, 97, 50, 53, 54]), .lit (.int .u64 5), .lit (.int .u16 0)]), (.int .u16 12, .agg [.lit (.string [115, 104, 97, 51, 56, 52]), .lit (.int .u64 6), .lit (.int .u16 0)]), (.int .u16 13, .agg [.lit (.string [115, 104, 97, 53, 49, 50]), .lit (.int .u64 7), .lit (.int .u16 0)]), (.int .u16 16, .agg [.lit (.string [110, 117, 108, 108]), .lit (.int .u64 0), .lit (.int .u16 0)]), (.int .u16 20, .agg [.lit (.string [114, 115, 97, 115, 115, 97]), .lit (.int .u64 0), .lit (.int .u16 1)]), (.int .u16 22, .agg [.lit (.string [114, 115, 97, 112, 115, 115]), .lit (.int .u64 0), .lit (.int .u16 1)]), (.int .u16 24, .agg [.lit (.string [101, 99, 100, 115, 97]), .lit (.int .u64 0), .lit (.int .u16 35)]), (.int .u16 35, .agg [.lit (.string [101, 99, 99]), .lit (.int .u64 0), .lit (.int .u16 0)]), (.int .u16 64, .agg [.lit (.string [99, 116, 114]), .lit (.int .u64 0), .lit (.int .u16 0)]), (.int .u16 65, .agg [.lit (.string [111, 102, 98]), .lit (.int .u64 0), .lit (.int .u16 0)]), (.int .u16 66, .agg [.lit (.string [99, 98, 99]), .lit (.int .u64 0), .lit (.int .u16 0)]), (.int .u16 67, .agg [.lit (.string [99, 102, 98]), .lit (.int .u64 0), .lit (.int .u16 0)]), (.int .u16 68, .agg [.lit (.string [101, 99, 98]), .lit (.int .u64 0), .lit (.int .u16 0)])]

/-- 'tpm.LawS6772AWhole': WHATEVER THE INPUT: true; the input reads as it did. -/
def lawS6772AWholeSpec : ChangeSpec := { name := "lawS6772AWhole", vars := ["example.com/quote-to-verdict/quote-to-verdict/internal/tpm.algs"], fn := fun _ => fun
  | [d, g1] => { results := [.lit (.bool true)], args := [d], vars := [g1] }
  | _ => none }
def lawS6772AWholeRow : OpenClaim := { program := "ybulkejfmdoor", sum := "073df8b6f6273cee59ce0b46d7f881289af39d09ed66586f2f8b9fdcf8c1f5c9", func := "example.com/quote-to-verdict/quote-to-verdict/internal/tpm.LawS6772AWhole", spec := "lawS6772AWhole", named := ["example.com/quote-to-verdict/quote-to-verdict/internal/tpm.algs"], maps := true, apart := false, laid := [("example.com/quote-to-verdict/quote-to-verdict/internal/tpm.algs", laid_example_com_quote_to_verdict_quote_to_verdict_internal_tpm_algs)] }
def LawS6772AWholeSaid : Prop := lawS6772AWholeRow.holds Ybad.pinned (OpenSpec.ofChange lawS6772AWholeSpec)

/-- ITS FALSE NEIGHBOUR: 'it returns false'. Refute it at one input. -/
def lawS6772AWholeWrong : ChangeSpec := { name := "lawS6772AWhole", vars := ["example.com/quote-to-verdict/quote-to-verdict/internal/tpm.algs"], fn := fun _ => fun
  | [d, g1] => { results := [.lit (.bool false)], args := [d], vars := [g1] }
  | _ => none }
def LawS6772AWholeWrongFalsely : Prop := lawS6772AWholeRow.holds Ybad.pinned (OpenSpec.ofChange lawS6772AWholeWrong)

end Rows
end Go.Proofs.YbulkejfmDoor
