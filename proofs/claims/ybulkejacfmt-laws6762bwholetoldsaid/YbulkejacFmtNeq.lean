/- Two bookings that hold the same values are not different. -/
import Derived.Test.YbulkejacFmtCal
import Derived.Laws.StructEq
namespace Go.Proofs.YbulkejacFmt
open Go.RowKit
theorem guard51 : Ybaf.prog.eqGuardType Ybaf.prog.depth 51 = false := by kernel_rfl
theorem stood51 : Ybaf.prog.stoodInHeld 51 = false := by kernel_rfl
theorem run_eqIn51 (b : Bk) (w : World) : (Go.Op.equalIn 10000 51 (bkVal b) (bkVal b)).run Ybaf.prog w = .ok true w := by
  unfold bkVal
  rw [run_equalIn_struct w 9999 51 _ _ (by simp [Program.fieldsOf, Ybaf.underlying51]) stood51]
  simp [Program.fieldsOf, Ybaf.underlying51, Op.eqFields, go_sem]
theorem run_neq51 (b : Bk) (w : World) : (binOp .neq 51 (bkVal b) (bkVal b)).run Ybaf.prog w = .ok (.bool false) w := by
  have := run_eqIn51 b w
  unfold bkVal at this ⊢
  rw [run_neq_struct, this]
  rfl
end Go.Proofs.YbulkejacFmt
