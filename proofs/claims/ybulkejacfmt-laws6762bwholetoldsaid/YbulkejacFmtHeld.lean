/- The law's helper that makes a row of bookings, by contract. -/
import Derived.Test.YbulkejacFmtMem
import Derived.Deep.CutBlock
import Derived.Deep.DeepCutAuto
import Derived.Deep.LoopGhost
import Derived.BigQuiet
import Derived.Deep.QuietTactic
import Derived.WalkSpells
namespace Go.Proofs.YbulkejacFmt
open Go.RowKit
set_option linter.unusedVariables false

set_option maxHeartbeats 1000000 in
set_option maxRecDepth 100000 in
theorem held4_any (e : Ent) (w : World) (hr : BkRow w e.ao e.bs) (hn : e.bs.length ≤ 1759218604441) :
    Calls Ybaf.prog 4 #[.agg #[.string e.id, .slice e.ao e.bs.length e.cap]] w fun x w' => ∃ g, x = .returned (.slice (some ⟨g, 0, none⟩) (heldOf e).length (heldOf e).length) ∧ w.heap.size ≤ g ∧ Blk w' g (rowCells (heldOf e)) 51 ∧ Below w.heap.size w w' := by
  obtain ⟨id, ao, cap, bs⟩ := e
  simp only at hr hn ⊢
  by_cases h0 : bs = []
  · subst h0
    have hh : heldOf ⟨id, ao, cap, []⟩ = [oneBk id] := rfl
    rw [hh, rowCells_one']
    have hnew := Blk.new (w.alloc (.cells #[.string id, .slice ao 0 cap] 25)) (rowCells [oneBk id]) 51
    rw [show (w.alloc (.cells #[.string id, .slice ao 0 cap] 25)).heap.size = w.heap.size + 1 by simp, rowCells_one'] at hnew
    have HN := hide hnew
    clear hnew
    go_enter Ybaf.func4, Ybaf.ntmps4
    go_wp2
    go_ret
    exact ⟨w.heap.size + 1, rfl, by omega, unhide HN, ((Below.refl _ _).alloc (Nat.le_refl _) _).alloc (by simp) _⟩
  · have hh : heldOf ⟨id, ao, cap, bs⟩ = bs := by simp [heldOf, h0]
    rw [hh]
    have hpos : 0 < bs.length := List.length_pos_iff.2 h0
    have hz : (((bs.length : Nat) : Int) == 0) = false := by simp; omega
    obtain ⟨i0, hi0, hz0, hz1, hz2⟩ := info_parts info51
    have hb1 : Below w.heap.size w (w.alloc (.cells #[.string id, .slice ao bs.length cap] 25)) := (Below.refl _ _).alloc (Nat.le_refl _) _
    have hmk := run_mk23 bs.length hn (w.alloc (.cells #[.string id, .slice ao bs.length cap] 25))
    have hb2 : Below (w.heap.size + 1) (w.alloc (.cells #[.string id, .slice ao bs.length cap] 25)) ((w.alloc (.cells #[.string id, .slice ao bs.length cap] 25)).alloc (.cells (rowCells (List.replicate bs.length zbk)).toArray 51)) := (Below.refl _ _).alloc (by simp) _
    obtain ⟨w1, hcp, hblk1, hbut⟩ := run_copy_ex (P := Ybaf.prog) ((w.alloc (.cells #[.string id, .slice ao bs.length cap] 25)).alloc (.cells (rowCells (List.replicate bs.length zbk)).toArray 51)) 23 23 3 51 i0 6 Ybaf.underlying23 hi0 hz1 (w.heap.size + 1) bs.length bs.length ao cap (rowCells (List.replicate bs.length zbk)) (rowCells bs) 51
      (by have := Blk.new (w.alloc (.cells #[.string id, .slice ao bs.length cap] 25)) (rowCells (List.replicate bs.length zbk)) 51; simpa using this) (by simp [rowCells_length]) (by rw [rowCells_length]) ((hr.keep hb1).keep (hb2.mono (by simp))).cells (rowCells_one bs)
    have HB := hide hblk1
    have HBE : Hid (Below w.heap.size w w1) := (hb1.trans (hb2.mono (by omega))).trans (hbut.below (by omega))
    clear hblk1 hbut hb1 hb2 hi0 hz0 hz1 hz2 h0
    generalize rowCells (List.replicate bs.length zbk) = zs at *
    go_enter Ybaf.func4, Ybaf.ntmps4
    go_wp2
    go_ret
    exact ⟨w.heap.size + 1, rfl, by omega, unhide HB, unhide HBE⟩
end Go.Proofs.YbulkejacFmt
