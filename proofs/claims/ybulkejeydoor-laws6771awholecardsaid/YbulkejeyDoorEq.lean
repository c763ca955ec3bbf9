/- '==' between two addresses, identities, networks that are one and the same. -/
import Derived.Test.YbulkejeyDoorAlloc
import Derived.Laws.StructEq
namespace Go.Proofs.YbulkejeyDoor
open Go.RowKit
set_option linter.unusedVariables false

theorem info31 : (Ybad.prog.info? (Ybad.prog.pointee 31)).isSome = true := by kernel_rfl
theorem same31 (z : Option Addr) (w : World) : (Op.equalIn 9998 31 (.pointer z) (.pointer z)).run Ybad.prog w = .ok true w := by
  have h : ∀ d, (Op.equalIn (d + 1) 31 (.pointer z) (.pointer z)).run Ybad.prog w = .ok true w := by
    intro d
    obtain ⟨j, hj⟩ := Option.isSome_iff_exists.1 info31
    have hu : Ybad.prog.underlying 31 = some (.pointer (Ybad.prog.pointee 31)) := by kernel_rfl
    generalize Ybad.prog.pointee 31 = e at *
    cases z with
    | none => simp [Op.equalIn, run_underlying hu]
    | some a => simp [Op.equalIn, run_underlying hu, sizeOf, typeInfo, hj, run_sameAddr_same]
  exact h 9997
end Go.Proofs.YbulkejeyDoor
