/- netip.AddrFrom4, by contract. -/
import Derived.Test.YbulkejeyDoorBase
import Derived.WalkSpells
import Derived.WalkLawsBesides
namespace Go.Proofs.YbulkejeyDoor
open Go.RowKit
set_option linter.unusedVariables false

/-- The low word of an IPv4 address as netip lays it. -/
def lo4 (a b c d : Int) : Int := bits BinOp.or IntKind.u64 (bits BinOp.or IntKind.u64 (bits BinOp.or IntKind.u64 (bits BinOp.or IntKind.u64 281470681743360 (a * 16777216)) (b * 65536)) (c * 256)) d

set_option maxHeartbeats 400000 in
theorem from4_any (a b c d : Int) (z : Option Addr) (w : World) (hz : w.cell? ⟨0, 0, none⟩ = some (.pointer z)) (ha : 0 ≤ a ∧ a ≤ 255) (hb : 0 ≤ b ∧ b ≤ 255) (hc : 0 ≤ c ∧ c ≤ 255) (hd : 0 ≤ d ∧ d ≤ 255) :
    Calls Ybad.prog 4 #[.agg #[.int .u8 a, .int .u8 b, .int .u8 c, .int .u8 d]] w fun e w' => e = .returned (.agg #[.int .u64 0, .int .u64 (lo4 a b c d), .pointer z]) ∧ ∃ c1 c2 : Array Value, w' = (w.alloc (.cells c1 37)).alloc (.cells c2 35) := by
  obtain ⟨a0, a1⟩ := ha; obtain ⟨b0, b1⟩ := hb; obtain ⟨c0, c1⟩ := hc; obtain ⟨d0, d1⟩ := hd
  have hlt : 0 < w.heap.size := by
    rcases Nat.eq_zero_or_pos w.heap.size with h0 | h
    · simp [World.cell?, h0] at hz
    · exact h
  go_enter Ybad.func4, Ybad.ntmps4
  go_wp2
  exact bodyPost_ret (v := .agg #[.int .u64 0, .int .u64 (lo4 a b c d), .pointer z]) (by simp [results, Ybad.results4, go_sem, lo4]) rfl ⟨rfl, _, _, rfl⟩
end Go.Proofs.YbulkejeyDoor
