/- allocateGUTI, by contract. -/
import Derived.Test.YbulkejeyDoorAddr
import Derived.BigQuiet
import Derived.BigRegion
import Derived.Deep.QuietTactic
import Derived.RegionTactic
namespace Go.Proofs.YbulkejeyDoor
open Go.RowKit
set_option linter.unusedVariables false

/-- An MME as the law lays it: its eighteen cells. -/
def mme (mcc mnc : ByteArray) (group code : Int) (mt pdn : Value) (mp : Nat) (mu au : Int) : List Value :=
  [.string mcc, .string mnc, .slice none 0 0, .slice none 0 0, .nilIface, .int .u16 group, .int .u8 code, mt, .slice none 0 0, .string { data := #[] }, .int .u8 0, .bool false, .string { data := #[] }, .int .u8 0, pdn, .map (some mp), .int .i64 mu, .int .i64 au]

/-- Old memory is as it was but for block M. -/
structure Grew (M : Nat) (w w' : World) : Prop where
  os : w'.os = w.os
  tape : w'.tape = w.tape
  output : w'.output = w.output
  size : w.heap.size ≤ w'.heap.size
  block : ∀ k, k < w.heap.size → k ≠ M → w'.heap[k]? = w.heap[k]?

theorem Grew.of_below {M : Nat} {w w' : World} (h : Below w.heap.size w w') : Grew M w w' := ⟨h.os, h.tape, h.output, h.size, fun k hk _ => h.block k hk⟩

theorem Grew.refl (M : Nat) (w : World) : Grew M w w := ⟨rfl, rfl, rfl, Nat.le_refl _, fun _ _ _ => rfl⟩
theorem Grew.alloc {M : Nat} {a w : World} (h : Grew M a w) (o : Obj) : Grew M a (w.alloc o) :=
  ⟨h.os, h.tape, h.output, by have := h.size; simp; omega, fun k hk hne => by rw [Below.heap_alloc _ _ _ (by have := h.size; omega)]; exact h.block k hk hne⟩
theorem Grew.drewN {M : Nat} {a w : World} (h : Grew M a w) (n : Nat) : Grew M a (w.drewN n) := ⟨h.os, h.tape, h.output, h.size, h.block⟩
theorem Grew.setCell {M : Nat} {a w : World} (h : Grew M a w) {p : Addr} (hp : p.block = M ∨ a.heap.size ≤ p.block) (v : Value) : Grew M a (w.setCell p v) :=
  ⟨h.os, h.tape, h.output, by have := h.size; simpa [World.setCell] using this, fun k hk hne => by rw [Below.heap_setCell _ _ _ _ (by omega)]; exact h.block k hk hne⟩
theorem Grew.trans {M : Nat} {a b c : World} (h : Grew M a b) (k : Grew M b c) : Grew M a c :=
  ⟨k.os.trans h.os, k.tape.trans h.tape, k.output.trans h.output, Nat.le_trans h.size k.size, fun i hi hne => (k.block i (Nat.lt_of_lt_of_le hi h.size) hne).trans (h.block i hi hne)⟩
theorem Grew.below {M B : Nat} {w w' : World} (h : Grew M w w') (hM : B ≤ M) (hB : B ≤ w.heap.size) : Below B w w' := ⟨h.os, h.tape, h.output, h.size, fun k hk => h.block k (by omega) (by omega)⟩
theorem Grew.cell {M : Nat} {w w' : World} (h : Grew M w w') {p : Addr} (hp : p.block < w.heap.size) (hne : p.block ≠ M) : w'.cell? p = w.cell? p := World.cell?_of_block (w := w) (h.block p.block hp hne)
theorem Grew.blk {M b : Nat} {w w' : World} {cs : List Value} {T : TypeId} (h : Grew M w w') (hb : Blk w b cs T) (hne : b ≠ M) : Blk w' b cs T := by
  unfold Blk; rw [h.block b hb.lt hne]; exact hb

/-- errors.New. -/
theorem new_any (t : ByteArray) (w : World) : Calls Ybad.prog 6 #[.string t] w fun e w' => e = .returned (.iface 65 (.pointer (some ⟨w.heap.size, 0, none⟩))) ∧ w' = w.alloc (.cells #[.string t] 67) := by
  go_enter Ybad.func6, Ybad.ntmps6
  go_wp2
  go_ret
  exact ⟨rfl, rfl⟩

/-- A mobile identity as cells. -/
def ident (ty : ByteArray) (mcc mnc : ByteArray) (group code mt : Int) : Array Value := #[.string ty, .string { data := #[] }, .string mcc, .string mnc, .int .u16 group, .int .u8 code, .int .u32 mt]
def noIdent : Array Value := #[.string { data := #[] }, .string { data := #[] }, .string { data := #[] }, .string { data := #[] }, .int .u16 0, .int .u8 0, .int .u32 0]
def guti : ByteArray := { data := #[71, 85, 84, 73] }

set_option maxHeartbeats 400000 in
set_option maxRecDepth 100000 in
theorem guti_none (mcc mnc : ByteArray) (group code : Int) (mb nm M mp : Nat) (pdn : Value) (au : Int) (w : World) (hn : nm ≤ 1048576)
    (hB : Blk w M (mme mcc mnc group code (.slice (some ⟨mb, 0, none⟩) nm nm) pdn mp nm au) 53) :
    Calls Ybad.prog 7 #[.pointer (some ⟨M, 0, none⟩)] w fun e w' => ∃ b, e = .returned (.tuple #[.agg noIdent, .iface 65 (.pointer (some ⟨b, 0, none⟩))]) ∧ Below w.heap.size w w' := by
  have hl := hB.lt
  have hc16 : w.cell? ⟨M, 16, none⟩ = some (.int .i64 nm) := by rw [hB.cell]; rfl
  have hc7 : w.cell? ⟨M, 7, none⟩ = some (.slice (some ⟨mb, 0, none⟩) nm nm) := by rw [hB.cell]; rfl
  clear hB
  go_enter Ybad.func7, Ybad.ntmps7
  go_wp2
  go_quiet (fail)
  go_wp2_with (go_at_call 6; refine (new_any _ _).mono ?_; rintro e w' ⟨rfl, rfl⟩)
  refine bodyPost_ret (v := .tuple #[.agg noIdent, .iface 65 (.pointer (some ⟨w.heap.size + 1, 0, none⟩))]) (by simp [results, Ybad.results7, go_sem, noIdent]) rfl ⟨_, rfl, ?_⟩
  have h7 := (((((((below_drewN ((Below.refl w.heap.size w).alloc (Nat.le_refl _) (.cells noIdent 56)) nq).setCell (p := ⟨w.heap.size, 0, none⟩) (Nat.le_refl _) (.string { data := #[] })).setCell (p := ⟨w.heap.size, 1, none⟩) (Nat.le_refl _) (.string { data := #[] })).setCell (p := ⟨w.heap.size, 2, none⟩) (Nat.le_refl _) (.string { data := #[] })).setCell (p := ⟨w.heap.size, 3, none⟩) (Nat.le_refl _) (.string { data := #[] })).setCell (p := ⟨w.heap.size, 4, none⟩) (Nat.le_refl _) (.int .u16 0)).setCell (p := ⟨w.heap.size, 5, none⟩) (Nat.le_refl _) (.int .u8 0)).setCell (p := ⟨w.heap.size, 6, none⟩) (Nat.le_refl _) (.int .u32 0)
  exact h7.alloc h7.size _

set_option maxHeartbeats 1000000 in
set_option maxRecDepth 100000 in
theorem guti_some (mcc mnc : ByteArray) (group code : Int) (mb nm M mp k : Nat) (t : Int) (pdn : Value) (au : Int) (w : World) (hn : nm ≤ 1048576) (hk : k < nm)
    (hB : Blk w M (mme mcc mnc group code (.slice (some ⟨mb, 0, none⟩) nm nm) pdn mp k au) 53) (ht : w.cell? ⟨mb, k, none⟩ = some (.int .u32 t)) :
    Calls Ybad.prog 7 #[.pointer (some ⟨M, 0, none⟩)] w fun e w' => e = .returned (.tuple #[.agg (ident guti mcc mnc group code t), .nilIface]) ∧ Blk w' M (mme mcc mnc group code (.slice (some ⟨mb, 0, none⟩) nm nm) pdn mp (k + 1) au) 53 ∧ Grew M w w' := by
  have hl := hB.lt
  have hc0 : w.cell? ⟨M, 0, none⟩ = some (.string mcc) := by rw [hB.cell]; rfl
  have hc1 : w.cell? ⟨M, 1, none⟩ = some (.string mnc) := by rw [hB.cell]; rfl
  have hc5 : w.cell? ⟨M, 5, none⟩ = some (.int .u16 group) := by rw [hB.cell]; rfl
  have hc6 : w.cell? ⟨M, 6, none⟩ = some (.int .u8 code) := by rw [hB.cell]; rfl
  have hc16 : w.cell? ⟨M, 16, none⟩ = some (.int .i64 k) := by rw [hB.cell]; rfl
  have hc7 : w.cell? ⟨M, 7, none⟩ = some (.slice (some ⟨mb, 0, none⟩) nm nm) := by rw [hB.cell]; rfl
  have hf16 := hB.frozen 16
  have hkn : ((k : Int) == (nm : Int)) = false := by simp; omega
  have hmb : mb < w.heap.size := by
    rcases Nat.lt_or_ge mb w.heap.size with h | h
    · exact h
    · simp [World.cell?, Array.getElem?_eq_none h] at ht
  have hki : (k : Int) < (nm : Int) := by omega
  have HB := hide hB
  clear hB
  go_enter Ybad.func7, Ybad.ntmps7
  go_wp2
  go_quiet (fail)
  go_wp2
  go_region
  go_wp2
  have hg := ((((((((((Grew.refl M w).alloc (.cells noIdent 56)).drewN (nq + 1)).setCell (p := ⟨M, 16, none⟩) (.inl rfl) (.int .i64 ((k : Int) + 1))).setCell (p := ⟨w.heap.size, 0, none⟩) (.inr (Nat.le_refl _)) (.string guti)).setCell (p := ⟨w.heap.size, 1, none⟩) (.inr (Nat.le_refl _)) (.string { data := #[] })).setCell (p := ⟨w.heap.size, 2, none⟩) (.inr (Nat.le_refl _)) (.string mcc)).setCell (p := ⟨w.heap.size, 3, none⟩) (.inr (Nat.le_refl _)) (.string mnc)).setCell (p := ⟨w.heap.size, 4, none⟩) (.inr (Nat.le_refl _)) (.int .u16 group)).setCell (p := ⟨w.heap.size, 5, none⟩) (.inr (Nat.le_refl _)) (.int .u8 code)).setCell (p := ⟨w.heap.size, 6, none⟩) (.inr (Nat.le_refl _)) (.int .u32 t)
  have hne : M ≠ w.heap.size := by omega
  have hb := ((((((((((HB.out.alloc (.cells noIdent 56)).drewN (nq + 1)).setCell 16 (.int .i64 ((k : Int) + 1))).setCell_ne (a := ⟨w.heap.size, 0, none⟩) hne (.string guti)).setCell_ne (a := ⟨w.heap.size, 1, none⟩) hne (.string { data := #[] })).setCell_ne (a := ⟨w.heap.size, 2, none⟩) hne (.string mcc)).setCell_ne (a := ⟨w.heap.size, 3, none⟩) hne (.string mnc)).setCell_ne (a := ⟨w.heap.size, 4, none⟩) hne (.int .u16 group)).setCell_ne (a := ⟨w.heap.size, 5, none⟩) hne (.int .u8 code)).setCell_ne (a := ⟨w.heap.size, 6, none⟩) hne (.int .u32 t)).alloc (.cells (ident guti mcc mnc group code t) 56)
  exact bodyPost_ret (v := .tuple #[.agg (ident guti mcc mnc group code t), .nilIface]) (by simp [results, Ybad.results7, go_sem, ident, guti]) rfl ⟨rfl, hb, hg.alloc _⟩
end Go.Proofs.YbulkejeyDoor
