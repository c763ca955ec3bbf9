/- slices.Index over []*record: the first place that holds r. -/
import Derived.Test.YbulkejekBase
namespace Go.Proofs.Ybulkejek
open Go.RowKit

theorem ptrs_get {w : World} {b : Nat} {ps : List (Option Addr)} {T : TypeId} (h : Blk w b (ps.map Value.pointer) T) {k : Nat} (hk : k < ps.length) :
    w.cell? ⟨b, k, none⟩ = some (.pointer (ps.getD k none)) := by
  rw [h.cell]; simp [List.getD, hk]

set_option maxHeartbeats 400000 in
theorem index_any (b n cap j : Nat) (ps : List (Option Addr)) (r : Option Addr) (w : World) (hB : Blk w b (ps.map Value.pointer) 24) (hn : n ≤ ps.length) (hm : n ≤ 1048576)
    (hok : ∀ p ∈ ps, PtrOk w p) (hj : j < n) (hr : ps.getD j none = r) (hfirst : ∀ k, k < j → ps.getD k none ≠ r) :
    Calls Yba.prog 5 #[.slice (some ⟨b, 0, none⟩) n cap, .pointer r] w fun e w' => e = .returned (.int .i64 j) ∧ w' = w := by
  have hget : ∀ k, k < ps.length → ps.getD k none ∈ ps := by
    intro k hk; simp [List.getD, hk]
  have hrok : PtrOk w r := by rw [← hr]; exact hok _ (hget _ (by omega))
  go_enter Yba.func5, Yba.ntmps5
  go_wp2
  go_loop [8] (fun i => ∃ k : Nat, k ≤ j ∧ i = .int .i64 k) (fun i => n - (intOf i).toNat)
  case atStart => exact ⟨0, Nat.zero_le _, rfl⟩
  case round =>
    obtain ⟨k, hk, rfl⟩ := hrel
    have hcell := ptrs_get hB (k := k) (by omega)
    obtain ⟨p, hp⟩ : ∃ p, p = ps.getD k none := ⟨_, rfl⟩
    rw [← hp] at hcell
    have hpok : PtrOk w p := by rw [hp]; exact hok _ (hget _ (by omega))
    have heq := run_eql_ptr w hrok hpok
    by_cases hkj : k < j
    · have hne : r ≠ p := by rw [hp]; exact fun h => hfirst k hkj h.symm
      have HP : Hid (p = ps.getD k none) := hp
      clear hp
      simp only [hne, decide_false] at heq
      clear hpok hrok hok hget hfirst hr hB
      go_wp2
      go_round
      case rel => exact ⟨k + 1, by omega, by go_num⟩
      case measure => simp [intOf]; omega
    · have hkj' : k = j := by omega
      subst hkj'
      have hpr : r = p := by rw [hp, hr]
      clear hp
      subst hpr
      simp only [decide_true] at heq
      clear hpok hrok hok hget hfirst hr hB
      go_wp2
      go_ret
      exact ⟨rfl, rfl⟩
end Go.Proofs.Ybulkejek
