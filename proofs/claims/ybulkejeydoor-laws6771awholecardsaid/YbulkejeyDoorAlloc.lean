/- (*MME).allocate, by contract: its three ways. -/
import Derived.Test.YbulkejeyDoorGuti
namespace Go.Proofs.YbulkejeyDoor
open Go.RowKit
set_option linter.unusedVariables false

def noAddr : Array Value := #[.int .u64 0, .int .u64 0, .pointer none]

theorem below3 {B : Nat} {a w : World} (h : Below B a w) {b : Nat} (hb : B ≤ b) (v0 v1 v2 : Value) : Below B a (((w.setCell ⟨b, 0, none⟩ v0).setCell ⟨b, 1, none⟩ v1).setCell ⟨b, 2, none⟩ v2) :=
  ((h.setCell (p := ⟨b, 0, none⟩) hb v0).setCell (p := ⟨b, 1, none⟩) hb v1).setCell (p := ⟨b, 2, none⟩) hb v2
theorem below7 {B : Nat} {a w : World} (h : Below B a w) {b : Nat} (hb : B ≤ b) (v0 v1 v2 v3 v4 v5 v6 : Value) :
    Below B a (((((((w.setCell ⟨b, 0, none⟩ v0).setCell ⟨b, 1, none⟩ v1).setCell ⟨b, 2, none⟩ v2).setCell ⟨b, 3, none⟩ v3).setCell ⟨b, 4, none⟩ v4).setCell ⟨b, 5, none⟩ v5).setCell ⟨b, 6, none⟩ v6) :=
  ((((below3 h hb v0 v1 v2).setCell (p := ⟨b, 3, none⟩) hb v3).setCell (p := ⟨b, 4, none⟩) hb v4).setCell (p := ⟨b, 5, none⟩) hb v5).setCell (p := ⟨b, 6, none⟩) hb v6
theorem grew3 {M : Nat} {a w : World} (h : Grew M a w) {b : Nat} (hb : a.heap.size ≤ b) (v0 v1 v2 : Value) : Grew M a (((w.setCell ⟨b, 0, none⟩ v0).setCell ⟨b, 1, none⟩ v1).setCell ⟨b, 2, none⟩ v2) :=
  ((h.setCell (p := ⟨b, 0, none⟩) (.inr hb) v0).setCell (p := ⟨b, 1, none⟩) (.inr hb) v1).setCell (p := ⟨b, 2, none⟩) (.inr hb) v2
theorem grew7 {M : Nat} {a w : World} (h : Grew M a w) {b : Nat} (hb : a.heap.size ≤ b) (v0 v1 v2 v3 v4 v5 v6 : Value) :
    Grew M a (((((((w.setCell ⟨b, 0, none⟩ v0).setCell ⟨b, 1, none⟩ v1).setCell ⟨b, 2, none⟩ v2).setCell ⟨b, 3, none⟩ v3).setCell ⟨b, 4, none⟩ v4).setCell ⟨b, 5, none⟩ v5).setCell ⟨b, 6, none⟩ v6) :=
  ((((grew3 h hb v0 v1 v2).setCell (p := ⟨b, 3, none⟩) (.inr hb) v3).setCell (p := ⟨b, 4, none⟩) (.inr hb) v4).setCell (p := ⟨b, 5, none⟩) (.inr hb) v5).setCell (p := ⟨b, 6, none⟩) (.inr hb) v6
theorem blk3 {M : Nat} {w : World} {cs : List Value} {T : TypeId} (h : Blk w M cs T) {b : Nat} (hb : M ≠ b) (v0 v1 v2 : Value) : Blk (((w.setCell ⟨b, 0, none⟩ v0).setCell ⟨b, 1, none⟩ v1).setCell ⟨b, 2, none⟩ v2) M cs T :=
  ((h.setCell_ne (a := ⟨b, 0, none⟩) hb v0).setCell_ne (a := ⟨b, 1, none⟩) hb v1).setCell_ne (a := ⟨b, 2, none⟩) hb v2
theorem blk7 {M : Nat} {w : World} {cs : List Value} {T : TypeId} (h : Blk w M cs T) {b : Nat} (hb : M ≠ b) (v0 v1 v2 v3 v4 v5 v6 : Value) :
    Blk (((((((w.setCell ⟨b, 0, none⟩ v0).setCell ⟨b, 1, none⟩ v1).setCell ⟨b, 2, none⟩ v2).setCell ⟨b, 3, none⟩ v3).setCell ⟨b, 4, none⟩ v4).setCell ⟨b, 5, none⟩ v5).setCell ⟨b, 6, none⟩ v6) M cs T :=
  ((((blk3 h hb v0 v1 v2).setCell_ne (a := ⟨b, 3, none⟩) hb v3).setCell_ne (a := ⟨b, 4, none⟩) hb v4).setCell_ne (a := ⟨b, 5, none⟩) hb v5).setCell_ne (a := ⟨b, 6, none⟩) hb v6

set_option maxHeartbeats 400000 in
set_option maxRecDepth 100000 in
theorem alloc_noaddr (mcc mnc : ByteArray) (group code : Int) (mb nm pb na M mp : Nat) (mu : Int) (w : World) (hn : na ≤ 1048576)
    (hB : Blk w M (mme mcc mnc group code (.slice (some ⟨mb, 0, none⟩) nm nm) (.slice (some ⟨pb, 0, none⟩) na na) mp mu na) 53) :
    Calls Ybad.prog 5 #[.pointer (some ⟨M, 0, none⟩)] w fun e w' => ∃ b, e = .returned (.tuple #[.agg noIdent, .agg noAddr, .iface 65 (.pointer (some ⟨b, 0, none⟩))]) ∧ Below w.heap.size w w' := by
  have hl := hB.lt
  have hc17 : w.cell? ⟨M, 17, none⟩ = some (.int .i64 na) := by rw [hB.cell]; rfl
  have hc14 : w.cell? ⟨M, 14, none⟩ = some (.slice (some ⟨pb, 0, none⟩) na na) := by rw [hB.cell]; rfl
  clear hB
  go_enter Ybad.func5, Ybad.ntmps5
  go_wp2
  go_quiet (fail)
  go_wp2_with (go_at_call 6; refine (new_any _ _).mono ?_; rintro e w' ⟨rfl, rfl⟩)
  refine bodyPost_ret (v := .tuple #[.agg noIdent, .agg noAddr, .iface 65 (.pointer (some ⟨w.heap.size + 1 + 1, 0, none⟩))]) (by simp [results, Ybad.results5, go_sem, noIdent, noAddr]) rfl ⟨_, rfl, ?_⟩
  have h0 := (Below.refl w.heap.size w).alloc (Nat.le_refl _) (.cells noIdent 56)
  have h1 := below_drewN (h0.alloc h0.size (.cells noAddr 35)) nq
  have h2 := below3 (below7 h1 (b := w.heap.size) (Nat.le_refl _) (.string { data := #[] }) (.string { data := #[] }) (.string { data := #[] }) (.string { data := #[] }) (.int .u16 0) (.int .u8 0) (.int .u32 0)) (b := w.heap.size + 1) (by omega) (.int .u64 0) (.int .u64 0) (.pointer none)
  exact h2.alloc h2.size _

theorem Blk.cells3 {w : World} {b : Nat} {v0 v1 v2 : Value} {T : TypeId} (h : Blk w b [v0, v1, v2] T) : w.cell? ⟨b, 0, none⟩ = some v0 ∧ w.cell? ⟨b, 1, none⟩ = some v1 ∧ w.cell? ⟨b, 2, none⟩ = some v2 ∧ ∀ o, w.frozen? ⟨b, o, none⟩ = false :=
  ⟨h.cell 0, h.cell 1, h.cell 2, h.frozen⟩
theorem Blk.cells7 {w : World} {b : Nat} {v0 v1 v2 v3 v4 v5 v6 : Value} {T : TypeId} (h : Blk w b [v0, v1, v2, v3, v4, v5, v6] T) :
    w.cell? ⟨b, 0, none⟩ = some v0 ∧ w.cell? ⟨b, 1, none⟩ = some v1 ∧ w.cell? ⟨b, 2, none⟩ = some v2 ∧ w.cell? ⟨b, 3, none⟩ = some v3 ∧ w.cell? ⟨b, 4, none⟩ = some v4 ∧ w.cell? ⟨b, 5, none⟩ = some v5 ∧ w.cell? ⟨b, 6, none⟩ = some v6 ∧ ∀ o, w.frozen? ⟨b, o, none⟩ = false :=
  ⟨h.cell 0, h.cell 1, h.cell 2, h.cell 3, h.cell 4, h.cell 5, h.cell 6, h.frozen⟩

set_option maxHeartbeats 400000 in
set_option maxRecDepth 100000 in
theorem alloc_nomt (mcc mnc : ByteArray) (group code : Int) (mb nm pb na M mp k : Nat) (w : World) (hn : na ≤ 1048576) (hn2 : nm ≤ 1048576) (hk : k < na)
    (hB : Blk w M (mme mcc mnc group code (.slice (some ⟨mb, 0, none⟩) nm nm) (.slice (some ⟨pb, 0, none⟩) na na) mp nm k) 53) :
    Calls Ybad.prog 5 #[.pointer (some ⟨M, 0, none⟩)] w fun e w' => ∃ b, e = .returned (.tuple #[.agg noIdent, .agg noAddr, .iface 65 (.pointer (some ⟨b, 0, none⟩))]) ∧ Below w.heap.size w w' := by
  have hl := hB.lt
  have hc17 : w.cell? ⟨M, 17, none⟩ = some (.int .i64 k) := by rw [hB.cell]; rfl
  have hc14 : w.cell? ⟨M, 14, none⟩ = some (.slice (some ⟨pb, 0, none⟩) na na) := by rw [hB.cell]; rfl
  have hkn : ((k : Int) == (na : Int)) = false := by simp; omega
  have HB := hide hB
  clear hB
  go_enter Ybad.func5, Ybad.ntmps5
  go_wp2
  go_quiet (fail)
  go_wp2_with fail
  refine (guti_none mcc mnc group code mb nm M mp (.slice (some ⟨pb, 0, none⟩) na na) k _ hn2 (((HB.out.alloc _).alloc _).drewN _)).mono ?_
  rintro e w1 ⟨b, rfl, hb1⟩
  have hsz : w.heap.size + 1 < w1.heap.size := by have := hb1.size; simp at this; omega
  have h56 : Blk w1 w.heap.size noIdent.toList 56 := (((Blk.new w noIdent.toList 56).alloc (.cells noAddr 35)).drewN nq).below hb1 (by simp; omega)
  have h35 : Blk w1 (w.heap.size + 1) noAddr.toList 35 := by
    have h := (Blk.new (w.alloc (.cells noIdent 56)) noAddr.toList 35).drewN nq
    rw [show (w.alloc (.cells noIdent 56)).heap.size = w.heap.size + 1 by simp] at h
    exact h.below hb1 (by simp)
  obtain ⟨a0, a1, a2, a3, a4, a5, a6, af⟩ := h56.cells7
  obtain ⟨b0, b1, b2, bf⟩ := h35.cells3
  have hsz0 : w.heap.size < w1.heap.size := by omega
  have HB1 := hide hb1
  clear hb1 h56 h35
  simp only [noIdent]
  go_wp2
  refine bodyPost_ret (v := .tuple #[.agg noIdent, .agg noAddr, .iface 65 (.pointer (some ⟨b, 0, none⟩))]) (by simp [results, Ybad.results5, go_sem, noIdent, noAddr, a0, a1, a2, a3, a4, a5, a6, b0, b1, b2, hsz, hsz0]) rfl ⟨_, rfl, ?_⟩
  have g0 := (Below.refl w.heap.size w).alloc (Nat.le_refl _) (.cells noIdent 56)
  have g1 := (below_drewN (g0.alloc g0.size (.cells noAddr 35)) nq).trans (HB1.out.mono (by simp; omega))
  have g2 := below3 (below7 g1 (b := w.heap.size) (Nat.le_refl _) (.string { data := #[] }) (.string { data := #[] }) (.string { data := #[] }) (.string { data := #[] }) (.int .u16 0) (.int .u8 0) (.int .u32 0)) (b := w.heap.size + 1) (by omega) (.int .u64 0) (.int .u64 0) (.pointer none)
  exact g2.alloc g2.size _

set_option maxHeartbeats 1000000 in
set_option maxRecDepth 100000 in
theorem alloc_ok (mcc mnc : ByteArray) (group code : Int) (mb nm pb na M mp j k : Nat) (t lo : Int) (z : Option Addr) (w : World) (hn : na ≤ 1048576) (hn2 : nm ≤ 1048576) (hj : j < nm) (hk : k < na)
    (hB : Blk w M (mme mcc mnc group code (.slice (some ⟨mb, 0, none⟩) nm nm) (.slice (some ⟨pb, 0, none⟩) na na) mp j k) 53) (hmM : mb ≠ M) (hpM : pb ≠ M) (hpl : pb < w.heap.size)
    (ht : w.cell? ⟨mb, j, none⟩ = some (.int .u32 t)) (hp0 : w.cell? ⟨pb, k * 3, none⟩ = some (.int .u64 0)) (hp1 : w.cell? ⟨pb, k * 3 + 1, none⟩ = some (.int .u64 lo)) (hp2 : w.cell? ⟨pb, k * 3 + 2, none⟩ = some (.pointer z)) :
    Calls Ybad.prog 5 #[.pointer (some ⟨M, 0, none⟩)] w fun e w' => e = .returned (.tuple #[.agg (ident guti mcc mnc group code t), .agg #[.int .u64 0, .int .u64 lo, .pointer z], .nilIface]) ∧
      Blk w' M (mme mcc mnc group code (.slice (some ⟨mb, 0, none⟩) nm nm) (.slice (some ⟨pb, 0, none⟩) na na) mp (j + 1) (k + 1)) 53 ∧ Grew M w w' := by
  have hl := hB.lt
  have hc17 : w.cell? ⟨M, 17, none⟩ = some (.int .i64 k) := by rw [hB.cell]; rfl
  have hc14 : w.cell? ⟨M, 14, none⟩ = some (.slice (some ⟨pb, 0, none⟩) na na) := by rw [hB.cell]; rfl
  have hkn : ((k : Int) == (na : Int)) = false := by simp; omega
  have hmb : mb < w.heap.size := by
    rcases Nat.lt_or_ge mb w.heap.size with h | h
    · exact h
    · simp [World.cell?, Array.getElem?_eq_none h] at ht
  have HB := hide hB
  clear hB
  go_enter Ybad.func5, Ybad.ntmps5
  go_wp2
  go_quiet (fail)
  go_wp2_with fail
  have ht' : (((w.alloc (.cells noIdent 56)).alloc (.cells noAddr 35)).drewN nq).cell? ⟨mb, j, none⟩ = some (.int .u32 t) := by
    rw [← ht]
    exact (((Below.refl w.heap.size w).alloc (Nat.le_refl _) (.cells noIdent 56)).alloc (by simp) (.cells noAddr 35)).cell (p := ⟨mb, j, none⟩) hmb
  refine (guti_some mcc mnc group code mb nm M mp j t (.slice (some ⟨pb, 0, none⟩) na na) k _ hn2 hj (((HB.out.alloc _).alloc _).drewN _) ht').mono ?_
  rintro e w1 ⟨rfl, hb1, hg1⟩
  have hsz : w.heap.size + 1 < w1.heap.size := by have := hg1.size; simp at this; omega
  have h56 : Blk w1 w.heap.size noIdent.toList 56 := hg1.blk (((Blk.new w noIdent.toList 56).alloc (.cells noAddr 35)).drewN nq) (by omega)
  have h35 : Blk w1 (w.heap.size + 1) noAddr.toList 35 := by
    have h := (Blk.new (w.alloc (.cells noIdent 56)) noAddr.toList 35).drewN nq
    rw [show (w.alloc (.cells noIdent 56)).heap.size = w.heap.size + 1 by simp] at h
    exact hg1.blk h (by omega)
  have hgw : Grew M w w1 := (((Grew.refl M w).alloc (.cells noIdent 56)).alloc (.cells noAddr 35)).drewN nq |>.trans hg1
  have q0 := (hgw.cell (p := ⟨pb, k * 3, none⟩) hpl hpM).trans hp0
  have q1 := (hgw.cell (p := ⟨pb, k * 3 + 1, none⟩) hpl hpM).trans hp1
  have q2 := (hgw.cell (p := ⟨pb, k * 3 + 2, none⟩) hpl hpM).trans hp2
  have hd17 : w1.cell? ⟨M, 17, none⟩ = some (.int .i64 k) := by rw [hb1.cell]; rfl
  have hd14 : w1.cell? ⟨M, 14, none⟩ = some (.slice (some ⟨pb, 0, none⟩) na na) := by rw [hb1.cell]; rfl
  have hdf := hb1.frozen 17
  obtain ⟨a0, a1, a2, a3, a4, a5, a6, af⟩ := h56.cells7
  obtain ⟨b0, b1, b2, bf⟩ := h35.cells3
  have hsz0 : w.heap.size < w1.heap.size := by omega
  have hMs : M < w1.heap.size := by omega
  have hps : pb < w1.heap.size := by omega
  have hki : (k : Int) < (na : Int) := by omega
  have HB1 := hide hb1
  have HGW := hide hgw
  clear hb1 h56 h35 hg1 hgw HB ht' hc17 hc14 ht hp0 hp1 hp2
  simp only [ident, guti]
  go_wp2
  go_region
  go_wp2
  go_region
  go_wp2
  have hneM : M ≠ w.heap.size := by omega
  have hneM1 : M ≠ w.heap.size + 1 := by omega
  have g1 := grew3 (grew7 (HGW.out.setCell (p := ⟨M, 17, none⟩) (.inl rfl) (.int .i64 ((k : Int) + 1))) (b := w.heap.size) (Nat.le_refl _) (.string guti) (.string { data := #[] }) (.string mcc) (.string mnc) (.int .u16 group) (.int .u8 code) (.int .u32 t)) (b := w.heap.size + 1) (by omega) (.int .u64 0) (.int .u64 lo) (.pointer z)
  have c1 := blk3 (blk7 (HB1.out.setCell 17 (.int .i64 ((k : Int) + 1))) (b := w.heap.size) hneM (.string guti) (.string { data := #[] }) (.string mcc) (.string mnc) (.int .u16 group) (.int .u8 code) (.int .u32 t)) (b := w.heap.size + 1) hneM1 (.int .u64 0) (.int .u64 lo) (.pointer z)
  exact bodyPost_ret (v := .tuple #[.agg (ident guti mcc mnc group code t), .agg #[.int .u64 0, .int .u64 lo, .pointer z], .nilIface]) (by simp [results, Ybad.results5, go_sem, ident, guti, a0, a1, a2, a3, a4, a5, a6, b0, b1, b2, hsz, hsz0]) rfl
    ⟨rfl, (((c1.alloc (.cells (ident guti mcc mnc group code t) 56)).alloc (.cells #[.int .u64 0, .int .u64 lo, .pointer z] 35)).drew).drew, (((g1.alloc (.cells (ident guti mcc mnc group code t) 56)).alloc (.cells #[.int .u64 0, .int .u64 lo, .pointer z] 35)).drewN 1).drewN 1⟩
end Go.Proofs.YbulkejeyDoor
