/- slices.Delete over []*record, one element: the cells behind it move down, the last is cleared. -/
import Derived.Test.YbulkejekBase
import Derived.Deep.RegionLaw
import Derived.Lib.SliceRun
import Derived.Laws.IdiomCopy
namespace Go.Proofs.Ybulkejek
open Go.RowKit

theorem info24 : (Yba.prog.info? 24).map (fun i => (i.zero, i.size, i.bytes)) = some (some (.pointer none), 1, 8) := by kernel_rfl

/-- All is as it was but for block b, which is still there. -/
structure But (b : Nat) (w w' : World) : Prop where
  os : w'.os = w.os
  tape : w'.tape = w.tape
  output : w'.output = w.output
  size : w'.heap.size = w.heap.size
  block : ∀ k, k ≠ b → w'.heap[k]? = w.heap[k]?

theorem But.refl (b : Nat) (w : World) : But b w w := ⟨rfl, rfl, rfl, rfl, fun _ _ => rfl⟩
theorem But.drew {b : Nat} {a w : World} (h : But b a w) : But b a w.drew := ⟨h.os, h.tape, h.output, h.size, h.block⟩
theorem But.setCell {b : Nat} {a w : World} (h : But b a w) (o : Nat) (v : Value) : But b a (w.setCell ⟨b, o, none⟩ v) :=
  ⟨h.os, h.tape, h.output, by rw [← h.size]; simp [World.setCell], fun k hk => (Below.heap_setCell _ _ _ _ hk).trans (h.block k hk)⟩
theorem But.setCells {b : Nat} {a : World} : ∀ (vs : List Value) (o : Nat) {w : World}, But b a w → But b a (w.setCells b o vs)
  | [], _, _, h => h
  | v :: vs, o, _, h => But.setCells vs (o + 1) (h.setCell o v)

/-- The list with what stands from o on written over by vs. -/
def over (cs : List Value) : Nat → List Value → List Value
  | _, [] => cs
  | o, v :: vs => over (cs.set o v) (o + 1) vs
theorem over_length : ∀ (vs cs : List Value) (o : Nat), (over cs o vs).length = cs.length
  | [], _, _ => rfl
  | v :: vs, cs, o => by simp [over, over_length vs]
theorem over_get : ∀ (vs cs : List Value) (o k : Nat), o + vs.length ≤ cs.length → (over cs o vs)[k]? = if o ≤ k ∧ k < o + vs.length then vs[k - o]? else cs[k]?
  | [], cs, o, k, _ => by simp [over]; intro h1 h2; omega
  | v :: vs, cs, o, k, h => by
    simp only [List.length_cons] at h
    rw [over, over_get vs (cs.set o v) (o + 1) k (by simp; omega)]
    simp only [List.length_cons]
    by_cases h1 : o = k
    · subst h1
      rw [if_neg (by omega), if_pos (by omega), Nat.sub_self, List.getElem?_set_self (by omega)]
      rfl
    · by_cases h2 : o + 1 ≤ k ∧ k < o + 1 + vs.length
      · rw [if_pos h2, if_pos (by omega)]
        obtain ⟨m, rfl⟩ : ∃ m, k = o + 1 + m := ⟨k - (o + 1), by omega⟩
        rw [show o + 1 + m - (o + 1) = m by omega, show o + 1 + m - o = m + 1 by omega]
        simp
      · rw [if_neg h2, if_neg (by omega)]
        rw [List.getElem?_set_ne h1]
theorem Blk.setCells {b : Nat} {T : TypeId} : ∀ (vs : List Value) (o : Nat) {cs : List Value} {w : World}, Blk w b cs T → Blk (w.setCells b o vs) b (over cs o vs) T
  | [], _, _, _, h => h
  | v :: vs, o, _, _, h => Blk.setCells vs (o + 1) (h.setCell o v)

/-- The list without its i-th element, nil behind. -/
def gone (ps : List (Option Addr)) (i : Nat) : List (Option Addr) := ps.eraseIdx i ++ [none]

def moved (ps : List (Option Addr)) (i : Nat) : List Value := (ps.drop (i + 1)).map Value.pointer

theorem moved_length {ps : List (Option Addr)} {i : Nat} : (moved ps i).length = ps.length - (i + 1) := by simp [moved]
theorem moved_get {ps : List (Option Addr)} {i j : Nat} (hj : j < ps.length - (i + 1)) : (moved ps i)[j]? = some (.pointer (ps.getD (i + 1 + j) none)) := by
  simp [moved, List.getD, show i + 1 + j < ps.length by omega]

theorem gone_over {ps : List (Option Addr)} {i : Nat} (hi : i < ps.length) :
    over (over (ps.map Value.pointer) i (moved ps i)) (ps.length - 1) (List.replicate 1 (.pointer none)) = (gone ps i).map Value.pointer := by
  apply List.ext_getElem?
  intro k
  rw [over_get _ _ _ _ (by rw [over_length]; simp; omega), over_get _ _ _ _ (by rw [moved_length]; simp; omega), moved_length]
  simp only [List.length_replicate, gone, List.map_append, List.map_cons, List.map_nil]
  have hl : (List.map Value.pointer (ps.eraseIdx i)).length = ps.length - 1 := by rw [List.length_map, List.length_eraseIdx, if_pos hi]
  by_cases h1 : k < ps.length - 1
  · rw [if_neg (by omega), List.getElem?_append_left (by omega), List.getElem?_map, List.getElem?_map, List.getElem?_eraseIdx]
    by_cases h2 : k < i
    · rw [if_neg (by omega), if_pos h2]
    · rw [if_pos (by omega), if_neg h2, moved_get (by omega)]
      rw [show i + 1 + (k - i) = k + 1 by omega]
      simp [List.getD, show k + 1 < ps.length by omega]
  · rw [List.getElem?_append_right (by omega), hl]
    by_cases h2 : k = ps.length - 1
    · rw [if_pos (by omega), h2, Nat.sub_self]; rfl
    · rw [if_neg (by omega), if_neg (by omega), List.getElem?_eq_none (by simp; omega), List.getElem?_eq_none (by simp; omega)]

theorem zero24 (w : World) : (zeroValue 24).run Yba.prog w = .ok (.pointer none) w := by kernel_rfl

set_option maxHeartbeats 1600000 in
set_option maxRecDepth 1000000 in
theorem delete_any (b n i : Nat) (ps : List (Option Addr)) (w : World) (hB : Blk w b (ps.map Value.pointer) 24) (hn : ps.length = n) (hm : n ≤ 1048576) (hi : i < n) :
    Calls Yba.prog 6 #[.slice (some ⟨b, 0, none⟩) n n, .int .i64 i, .int .i64 (i + 1)] w fun e w' => e = .returned (.slice (some ⟨b, 0, none⟩) (n - 1) n) ∧ Blk w' b ((gone ps i).map Value.pointer) 24 ∧ But b w w' := by
  obtain ⟨i0, hi0, hz0, hz1, hz2⟩ := info_parts info24
  obtain ⟨A, hA, hnews⟩ : ∃ A : Addr, (if n = i + 1 then some (⟨b, 0, none⟩ : Addr) else some ⟨b, i + 1, none⟩) = some A ∧ Hid (∀ j u, (moved ps i)[j]? = some u → w.drew.cell? (A.add j) = some u) := by
    by_cases h : n = i + 1
    · refine ⟨⟨b, 0, none⟩, by simp [h], fun j u hu => ?_⟩
      have h0 : (moved ps i).length = 0 := by rw [moved_length]; omega
      rw [List.length_eq_zero_iff.1 h0] at hu
      simp at hu
    · refine ⟨⟨b, i + 1, none⟩, by simp [h], fun j u hu => ?_⟩
      have hj : j < ps.length - (i + 1) := by
        have := (List.getElem?_eq_some_iff.1 hu).1
        rwa [moved_length] at this
      rw [moved_get hj] at hu
      rw [Addr.add_lit]
      show w.cell? _ = _
      rw [hB.cell, ← hu]
      simp [List.getD, show i + 1 + j < ps.length by omega]
  have s1 : Hid ((moved ps i).length = (n - (i + 1)) * 1) := by rw [Nat.mul_one, moved_length, hn]; rfl
  have s2 : Hid (∀ u ∈ moved ps i, u.oneCell' = true) := by
    intro u hu
    obtain ⟨x, _, rfl⟩ := List.mem_map.1 hu
    rfl
  have s3 : Hid (∀ j, j < (moved ps i).length → (w.drew.cell? ⟨b, 0 + i * 1 + j, none⟩).isSome = true ∧ w.drew.frozen? ⟨b, 0 + i * 1 + j, none⟩ = false) := by
    intro j hj
    rw [moved_length] at hj
    refine ⟨?_, hB.frozen _⟩
    show (w.cell? _).isSome = true
    rw [hB.cell]
    simp
    omega
  have hic : i ≤ n := by omega
  have hp0 : (0 : Int) ≤ (i : Int) + 1 := by omega
  have hp1 : (i : Int) + 1 ≤ (n : Int) := by omega
  have hp2 : ((i : Int) + 1).toNat = i + 1 := by omega
  have hB1 : Blk (w.drew.setCells b i (moved ps i)) b (over (ps.map Value.pointer) i (moved ps i)) 24 := Blk.setCells _ _ hB.drew
  have hcl := Lib.run_clear_slice (P := Yba.prog) (w.drew.setCells b i (moved ps i)) 38 24 0 (.pointer none) Yba.underlying38 zero24 rfl rfl b (i + (n - (i + 1))) (n - (i + (n - (i + 1)))) (n - (i + (n - (i + 1)))) (by omega)
    (fun j hj => by rw [hB1.cell, List.getElem?_eq_getElem (by rw [over_length]; simp; omega)]; rfl) (fun j hj => hB1.frozen _)
  have HE : Hid (Blk ((w.drew.setCells b i (moved ps i)).setCells b (i + (n - (i + 1))) (List.replicate (n - (i + (n - (i + 1)))) (.pointer none))) b ((gone ps i).map Value.pointer) 24 ∧ But b w ((w.drew.setCells b i (moved ps i)).setCells b (i + (n - (i + 1))) (List.replicate (n - (i + (n - (i + 1)))) (.pointer none)))) := by
    refine ⟨?_, But.setCells _ _ (But.setCells _ _ (But.refl b w).drew)⟩
    rw [← gone_over (i := i) (by omega), show i + (n - (i + 1)) = ps.length - 1 by omega, show n - (ps.length - 1) = 1 by omega]
    exact Blk.setCells _ _ hB1
  clear hB1
  have HN : Hid (ps.length = n) := hn
  clear hn
  have HB : Hid (Blk w b (ps.map Value.pointer) 24) := hB
  clear hB
  go_enter Yba.func6, Yba.ntmps6
  go_wp2_with fail
  go_region_law (refine step_append_room rfl (.tmp 22) (.tmp 25) 38 rfl 24 i0 1 Yba.underlying38 hi0 hz1 b 0 i n (by simp [Act.eval, Act.put]) A (n - (i + 1)) (n - (i + 1)) (moved ps i) (by simp [Act.eval, Act.put]) s1.out hnews.out s2.out (by omega) s3.out ?_)
  go_wp2
  go_ret
  exact ⟨by rw [show i + (n - (i + 1)) = n - 1 by omega]; rfl, HE.out⟩
end Go.Proofs.Ybulkejek
