/- The law's own memory, told by blocks: no walk here. -/
import Derived.Test.YbulkejfmCalls
namespace Go.Proofs.Ybulkejfm
open Go.RowKit
set_option linter.unusedVariables false

theorem info3 : (Yba.prog.info? 3).map (fun i => (i.zero, i.size, i.bytes)) = some (some (.int .i64 0), 1, 8) := by kernel_rfl
theorem info30 : (Yba.prog.info? 30).map (fun i => (i.zero, i.size, i.bytes)) = some (some (.agg #[.int .u16 0, .slice none 0 0]), 2, 32) := by kernel_rfl

def zeros (n : Nat) : List Value := List.replicate n (.int .i64 0)
theorem run_mk24 (c : Nat) (hc : c ≤ 1048576) (w : World) : (Instr.makeSlice 24 (.int .i64 c) (.int .i64 c)).run Yba.prog w = .ok (.slice (some ⟨w.heap.size, 0, none⟩) c c) (w.alloc (.cells (zeros c).toArray 3)) := by
  obtain ⟨i0, hi0, hz0, hz1, hz2⟩ := info_parts info3
  have e : madeCells (Value.int .i64 0).cells (c * 1) = (zeros c).toArray := by
    rw [Nat.mul_one]
    simp [madeCells, zeros, Value.cells]
    apply Array.ext
    · simp
    · intro i h1 h2
      simp [Nat.mod_one]
  rw [run_make w 24 3 i0 (.int .i64 0) Yba.underlying24 hi0 hz0 .i64 .i64 c c (by omega) (by omega) (by rw [hz2]; omega) (by omega)]
  simp only [Int.toNat_natCast, hz1, e]

/-- One of an entry's two cells. -/
def selCell (s : Sel) (j : Nat) : Value := if j = 0 then .int .u16 s.hash else .slice s.ao s.xs.length s.cap
/-- A row of n entries, the first of them these, the others zero. -/
def selCells (ns : List Sel) (n : Nat) : List Value := (List.range (n * 2)).map fun t => selCell (ns.getD (t / 2) noSel) (t % 2)
theorem selCells_get {ns : List Sel} {n i j : Nat} (hi : i < n) (hj : j < 2) : (selCells ns n)[i * 2 + j]? = some (selCell (ns.getD i noSel) j) := by
  unfold selCells
  rw [List.getElem?_map, List.getElem?_range (by omega)]
  simp only [Option.map_some]
  rw [show (i * 2 + j) / 2 = i by omega, show (i * 2 + j) % 2 = j by omega]
theorem selCells_set {ns : List Sel} {n : Nat} (s : Sel) (hk : ns.length < n) :
    ((selCells ns n).set (ns.length * 2) (.int .u16 s.hash)).set (ns.length * 2 + 1) (.slice s.ao s.xs.length s.cap) = selCells (ns ++ [s]) n := by
  apply List.ext_getElem?
  intro t
  have hl : ∀ l, (selCells l n).length = n * 2 := fun l => by simp [selCells]
  rw [List.getElem?_set, List.getElem?_set]
  simp only [List.length_set, hl]
  have hap : ∀ i, (ns ++ [s]).getD i noSel = if i = ns.length then s else ns.getD i noSel := by
    intro i
    simp only [List.getD]
    by_cases h1 : i < ns.length
    · rw [List.getElem?_append_left h1, if_neg (by omega)]
    · rw [List.getElem?_append_right (by omega)]
      by_cases h2 : i = ns.length
      · rw [if_pos h2, h2, Nat.sub_self]; rfl
      · rw [if_neg h2, List.getElem?_eq_none (l := [s]) (by simp; omega), List.getElem?_eq_none (l := ns) (by omega)]
  by_cases h : t < n * 2
  · have hr : ∀ l, (selCells l n)[t]? = some (selCell (l.getD (t / 2) noSel) (t % 2)) := fun l => by
      unfold selCells; rw [List.getElem?_map, List.getElem?_range h]; rfl
    rw [hr, hr, hap]
    by_cases h1 : ns.length * 2 + 1 = t
    · subst h1
      rw [if_pos rfl, if_pos h, show (ns.length * 2 + 1) / 2 = ns.length by omega, show (ns.length * 2 + 1) % 2 = 1 by omega, if_pos rfl]
      rfl
    · rw [if_neg h1]
      by_cases h0 : ns.length * 2 = t
      · subst h0
        rw [if_pos rfl, if_pos h, show ns.length * 2 / 2 = ns.length by omega, show ns.length * 2 % 2 = 0 by omega, if_pos rfl]
        rfl
      · rw [if_neg h0, if_neg (by omega)]
  · have hr : ∀ l, (selCells l n)[t]? = none := fun l => List.getElem?_eq_none (by rw [hl]; omega)
    rw [hr, hr, if_neg (by omega), if_neg (by omega)]
theorem run_mk27 (c : Nat) (hc : c ≤ 1048576) (w : World) : (Instr.makeSlice 27 (.int .i64 c) (.int .i64 c)).run Yba.prog w = .ok (.slice (some ⟨w.heap.size, 0, none⟩) c c) (w.alloc (.cells (selCells [] c).toArray 30)) := by
  obtain ⟨i0, hi0, hz0, hz1, hz2⟩ := info_parts info30
  have e : madeCells (Value.agg #[.int .u16 0, .slice none 0 0]).cells (c * 2) = (selCells [] c).toArray := by
    simp [madeCells, selCells, Value.cells]
    apply Array.ext
    · simp
    · intro i h1 h2
      have h3 : i % 2 = 0 ∨ i % 2 = 1 := by omega
      rcases h3 with h3 | h3 <;> simp [selCell, noSel, h3]
  rw [run_make w 27 30 i0 (.agg #[.int .u16 0, .slice none 0 0]) Yba.underlying27 hi0 hz0 .i64 .i64 c c (by omega) (by omega) (by rw [hz2]; omega) (by omega)]
  simp only [Int.toNat_natCast, hz1, e]

/-- The sum that the law's first loop makes. -/
def tot (n : Nat) (ss : List Sel) : Nat := n + (ss.map fun s => s.xs.length).sum
theorem tot_take {n : Nat} {ss : List Sel} {k : Nat} (hk : k < ss.length) : tot n (ss.take (k + 1)) = tot n (ss.take k) + (ss.getD k noSel).xs.length := by
  unfold tot
  rw [List.take_succ_eq_append_getElem hk]
  simp only [List.map_append, List.map_cons, List.map_nil, List.sum_append, List.sum_cons, List.sum_nil, List.getD, List.getElem?_eq_getElem hk, Option.getD_some]
  omega
theorem le_tot {n : Nat} {ss : List Sel} {s : Sel} (h : s ∈ ss) : s.xs.length ≤ tot n ss := by
  unfold tot
  have : s.xs.length ≤ (ss.map fun s => s.xs.length).sum := by
    induction ss with
    | nil => cases h
    | cons a l ih =>
      simp only [List.map_cons, List.sum_cons]
      rcases List.mem_cons.1 h with rfl | h
      · omega
      · have := ih h; omega
  omega

/-- The copy holds what the original holds, and is nil where it is. -/
def Like (a b : Sel) : Prop := a.hash = b.hash ∧ a.xs = b.xs ∧ (a.ao.isNone = b.ao.isNone)
theorem sels_like {ss ns : List Sel} (hl : ns.length = ss.length) (h : ∀ i, i < ss.length → Like (ns.getD i noSel) (ss.getD i noSel)) (alg x : Int) : sels ns alg x = sels ss alg x := by
  have hm : ns.map (fun s => picks s alg x) = ss.map (fun s => picks s alg x) := by
    apply List.ext_getElem?
    intro t
    rw [List.getElem?_map, List.getElem?_map]
    by_cases ht : t < ss.length
    · have := h t ht
      simp only [List.getD, List.getElem?_eq_getElem ht, List.getElem?_eq_getElem (show t < ns.length by omega), Option.getD_some] at this
      rw [List.getElem?_eq_getElem ht, List.getElem?_eq_getElem (by omega)]
      simp only [Option.map_some, picks, this.1, this.2.1]
    · rw [List.getElem?_eq_none (by omega), List.getElem?_eq_none (by omega)]
  have e : ∀ l : List Sel, sels l alg x = (l.map fun s => picks s alg x).any id := fun l => by simp [sels, List.any_map]
  rw [e, e, hm]

/-- The copies that are laid so far. -/
structure Fill (w wr : World) (S n : Nat) (ss ns : List Sel) : Prop where
  bel : Below w.heap.size w wr
  hS : w.heap.size ≤ S
  blk : Blk wr S (selCells ns n) 30
  like : ∀ i, i < ns.length → Like (ns.getD i noSel) (ss.getD i noSel)
  rows : ∀ s ∈ ns, (s.xs = [] ∨ ∃ b, s.ao = some ⟨b, 0, none⟩ ∧ S < b ∧ Blk wr b (s.xs.map (Value.int .i64)) 3) ∧ s.xs.length ≤ 1048576
theorem Fill.start (w : World) (n : Nat) (ss : List Sel) : Fill w (w.alloc (.cells (selCells [] n).toArray 30)) w.heap.size n ss [] :=
  ⟨(Below.refl _ _).alloc (Nat.le_refl _) _, Nat.le_refl _, Blk.new w _ 30, fun i hi => by simp at hi, fun s hs => by cases hs⟩
theorem Fill.step {w wr w1 : World} {S n : Nat} {ss ns : List Sel} (h : Fill w wr S n ss ns) (hb : Below wr.heap.size wr w1) (s : Sel) (hk : ns.length < n) (hlike : Like s (ss.getD ns.length noSel))
    (hrow : (s.xs = [] ∨ ∃ b, s.ao = some ⟨b, 0, none⟩ ∧ S < b ∧ Blk w1 b (s.xs.map (Value.int .i64)) 3) ∧ s.xs.length ≤ 1048576) :
    Fill w ((w1.setCell ⟨S, ns.length * 2, none⟩ (.int .u16 s.hash)).setCell ⟨S, ns.length * 2 + 1, none⟩ (.slice s.ao s.xs.length s.cap)) S n ss (ns ++ [s]) := by
  have hSl := h.blk.lt
  have up : ∀ b cs T, S < b → Blk w1 b cs T → Blk ((w1.setCell ⟨S, ns.length * 2, none⟩ (.int .u16 s.hash)).setCell ⟨S, ns.length * 2 + 1, none⟩ (.slice s.ao s.xs.length s.cap)) b cs T :=
    fun b cs T hlt hb => (hb.setCell_ne (a := ⟨S, ns.length * 2, none⟩) (by simp; omega) _).setCell_ne (a := ⟨S, ns.length * 2 + 1, none⟩) (by simp; omega) _
  refine ⟨((h.bel.trans (hb.mono h.bel.size)).setCell (p := ⟨S, ns.length * 2, none⟩) h.hS _).setCell (p := ⟨S, ns.length * 2 + 1, none⟩) h.hS _, h.hS, ?_, fun i hi => ?_, fun s' hs' => ?_⟩
  · rw [← selCells_set s hk]
    exact ((h.blk.below hb hSl).setCell _ _).setCell _ _
  · simp only [List.length_append, List.length_singleton] at hi
    by_cases h1 : i < ns.length
    · have := h.like i h1
      simp only [List.getD, List.getElem?_append_left h1] at this ⊢
      exact this
    · obtain rfl : i = ns.length := by omega
      rw [show (ns ++ [s]).getD ns.length noSel = s by simp [List.getD]]
      exact hlike
  · rcases List.mem_append.1 hs' with hs' | hs'
    · obtain ⟨h1, h2⟩ := h.rows s' hs'
      refine ⟨?_, h2⟩
      rcases h1 with h1 | ⟨b, h1, h3, h4⟩
      · exact .inl h1
      · exact .inr ⟨b, h1, h3, up _ _ _ h3 (h4.below hb h4.lt)⟩
    · simp only [List.mem_singleton] at hs'
      subst hs'
      refine ⟨?_, hrow.2⟩
      rcases hrow.1 with h1 | ⟨b, h1, h3, h4⟩
      · exact .inl h1
      · exact .inr ⟨b, h1, h3, up _ _ _ h3 h4⟩
theorem Fill.done {w wr : World} {S n : Nat} {ss ns : List Sel} (h : Fill w wr S n ss ns) (hl : ns.length = n) : SelRow wr (some ⟨S, 0, none⟩) ns := by
  refine ⟨fun s hs => ?_, ?_⟩
  · obtain ⟨h1, h2⟩ := h.rows s hs
    refine ⟨?_, by omega⟩
    rcases h1 with h1 | ⟨b, h1, h3, h4⟩
    · exact .inl h1
    · refine .inr ⟨b, 0, h1, h4.lt, fun i hi => ?_⟩
      rw [Nat.zero_add, h4.cell]
      simp [List.getD, hi]
  · refine .inr ⟨S, 0, rfl, h.blk.lt, fun i hi => ⟨?_, ?_⟩⟩
    · have := selCells_get (ns := ns) (n := n) (i := i) (j := 0) (by omega) (by omega)
      rw [Nat.zero_add, h.blk.cell, show i * 2 = i * 2 + 0 by omega, this]; rfl
    · rw [Nat.zero_add, h.blk.cell, selCells_get (by omega) (by omega)]; rfl
theorem ints_one (xs : List Int) : ∀ v ∈ xs.map (Value.int .i64), v.oneCell' = true := by
  intro v hv
  obtain ⟨x, _, rfl⟩ := List.mem_map.1 hv
  rfl
theorem Row.cells {w : World} {ao : Option Addr} {xs : List Int} (h : Row w ao xs) : 0 < (xs.map (Value.int .i64)).length → ∃ ad, ao = some ad ∧ ∀ j v, (xs.map (Value.int .i64))[j]? = some v → w.cell? (ad.add j) = some v := by
  intro h0
  rcases h with rfl | ⟨b, off, rfl, _, hc⟩
  · simp at h0
  · refine ⟨_, rfl, fun j v hj => ?_⟩
    have hjl : j < xs.length := by have := (List.getElem?_eq_some_iff.1 hj).1; simpa using this
    rw [Addr.add_lit, hc j hjl, ← hj]
    simp [List.getD, hjl]
end Go.Proofs.Ybulkejfm
