/- backfill.without: the first copy of r taken out: two contracts. -/
import Derived.Test.YbulkejekIndex
import Derived.Test.YbulkejekDelete
namespace Go.Proofs.Ybulkejek
open Go.RowKit

/-- Block b holds these pointers. -/
def Ptrs (w : World) (b : Nat) (ps : List (Option Addr)) : Prop := Blk w b (ps.map Value.pointer) 24

set_option maxHeartbeats 400000 in
theorem without_first (b n : Nat) (ps : List (Option Addr)) (r : Option Addr) (w : World) (hB : Blk w b (ps.map Value.pointer) 24) (hn : ps.length = n) (hm : n ≤ 1048576) (h0 : 0 < n)
    (hok : ∀ p ∈ ps, PtrOk w p) (hr : ps.getD 0 none = r) :
    Calls Yba.prog 4 #[.slice (some ⟨b, 0, none⟩) n n, .pointer r] w fun e w' => e = .returned (.slice (if n = 1 then some ⟨b, 0, none⟩ else some ⟨b, 1, none⟩) (n - 1) (n - 1)) ∧ Ptrs w' b (ps.set 0 none) ∧ But b w w' := by
  have hcell := ptrs_get hB (k := 0) (by omega)
  rw [hr] at hcell
  have hrok : PtrOk w r := by rw [← hr]; exact hok _ (by simp [List.getD, show 0 < ps.length by omega])
  have heq := run_eql_ptr w hrok hrok
  simp only [decide_true] at heq
  have hf := hB.frozen 0
  have HE : Hid (Ptrs (w.setCell ⟨b, 0, none⟩ (.pointer none)) b (ps.set 0 none) ∧ But b w (w.setCell ⟨b, 0, none⟩ (.pointer none))) := by
    refine ⟨?_, (But.refl b w).setCell _ _⟩
    unfold Ptrs
    rw [List.map_set]
    exact hB.setCell 0 _
  have HN : Hid (ps.length = n) := hn
  have h1 : 1 ≤ n := h0
  clear hn hB hok hr hrok
  go_enter Yba.func4, Yba.ntmps4
  go_wp2
  all_goals (go_ret; exact ⟨by simp [*], HE.out⟩)

set_option maxHeartbeats 400000 in
theorem without_later (b n j : Nat) (ps : List (Option Addr)) (r : Option Addr) (w : World) (hB : Blk w b (ps.map Value.pointer) 24) (hn : ps.length = n) (hm : n ≤ 1048576) (h0 : 0 < j)
    (hok : ∀ p ∈ ps, PtrOk w p) (hj : j < n) (hr : ps.getD j none = r) (hfirst : ∀ k, k < j → ps.getD k none ≠ r) :
    Calls Yba.prog 4 #[.slice (some ⟨b, 0, none⟩) n n, .pointer r] w fun e w' => e = .returned (.slice (some ⟨b, 0, none⟩) (n - 1) n) ∧ Ptrs w' b (gone ps j) ∧ But b w w' := by
  have hidx := index_any b n n j ps r w hB (by omega) hm hok hj hr hfirst
  have hdel := delete_any b n j ps w hB hn hm hj
  have hcell := ptrs_get hB (k := 0) (by omega)
  have hrok : PtrOk w r := by rw [← hr]; exact hok _ (by simp [List.getD, show j < ps.length by omega])
  have hne : ps.getD 0 none ≠ r := hfirst 0 h0
  have hpok : PtrOk w (ps.getD 0 none) := hok _ (by simp [List.getD, show 0 < ps.length by omega])
  generalize ps.getD 0 none = p at *
  have heq := run_eql_ptr w hpok hrok
  simp only [hne, decide_false] at heq
  have HI : Hid (Calls Yba.prog 5 #[.slice (some ⟨b, 0, none⟩) n n, .pointer r] w fun e w' => e = .returned (.int .i64 j) ∧ w' = w) := hidx
  have HD : Hid (Calls Yba.prog 6 #[.slice (some ⟨b, 0, none⟩) n n, .int .i64 j, .int .i64 (j + 1)] w fun e w' => e = .returned (.slice (some ⟨b, 0, none⟩) (n - 1) n) ∧ Ptrs w' b (gone ps j) ∧ But b w w') := hdel
  have h1 : 1 ≤ n := by omega
  clear hn hB hok hr hrok hpok hne hfirst hidx hdel
  go_enter Yba.func4, Yba.ntmps4
  go_wp2_with (first
    | (go_at_call 5; refine HI.out.mono ?_; rintro e w' ⟨rfl, rfl⟩)
    | (go_at_call 6; refine HD.out.mono ?_; rintro e w' ⟨rfl, hb, hbut⟩))
  go_ret
  exact ⟨rfl, by assumption, by assumption⟩
end Go.Proofs.Ybulkejek
