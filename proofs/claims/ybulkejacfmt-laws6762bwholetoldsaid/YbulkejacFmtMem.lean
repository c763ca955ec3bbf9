/- The law's memory, told by blocks: bookings of six cells, rows of pointers to them, the map that holds those rows. No walk here. -/
import Derived.Test.YbulkejacFmtErr
import Derived.Maps.OwnSet
namespace Go.Proofs.YbulkejacFmt
open Go.RowKit
set_option linter.unusedVariables false

structure Bk where
  id : ByteArray
  obj : ByteArray
  st : Int
  en : Int
  subj : ByteArray
  itin : ByteArray
abbrev noStr : ByteArray := { data := #[] }
def zbk : Bk := ⟨noStr, noStr, 0, 0, noStr, noStr⟩
def bkCell (b : Bk) : Nat → Value
  | 0 => .string b.id
  | 1 => .string b.obj
  | 2 => .int .i64 b.st
  | 3 => .int .i64 b.en
  | 4 => .string b.subj
  | _ => .string b.itin
def bkVal (b : Bk) : Value := .agg #[.string b.id, .string b.obj, .int .i64 b.st, .int .i64 b.en, .string b.subj, .string b.itin]
def rowCells (l : List Bk) : List Value := (List.range (l.length * 6)).map fun t => bkCell (l.getD (t / 6) zbk) (t % 6)
theorem rowCells_length (l : List Bk) : (rowCells l).length = l.length * 6 := by simp [rowCells]
theorem rowCells_at {l : List Bk} {t : Nat} (h : t < l.length * 6) : (rowCells l)[t]? = some (bkCell (l.getD (t / 6) zbk) (t % 6)) := by
  unfold rowCells
  rw [List.getElem?_map, List.getElem?_range h]; rfl
theorem rowCells_get {l : List Bk} {i j : Nat} (hi : i < l.length) (hj : j < 6) : (rowCells l)[i * 6 + j]? = some (bkCell (l.getD i zbk) j) := by
  rw [rowCells_at (by omega), show (i * 6 + j) / 6 = i by omega, show (i * 6 + j) % 6 = j by omega]
theorem rowCells_one (l : List Bk) : ∀ v ∈ rowCells l, v.oneCell' = true := by
  intro v hv
  obtain ⟨t, _, rfl⟩ := List.mem_map.1 hv
  have : t % 6 < 6 := Nat.mod_lt _ (by omega)
  generalize t % 6 = j at this
  match j, this with
  | 0, _ | 1, _ | 2, _ | 3, _ | 4, _ | 5, _ => rfl
theorem rowCells_set {l : List Bk} {k : Nat} (b : Bk) (hk : k < l.length) :
    ((((((rowCells l).set (k * 6) (.string b.id)).set (k * 6 + 1) (.string b.obj)).set (k * 6 + 2) (.int .i64 b.st)).set (k * 6 + 3) (.int .i64 b.en)).set (k * 6 + 4) (.string b.subj)).set (k * 6 + 5) (.string b.itin) = rowCells (l.set k b) := by
  apply List.ext_getElem?
  intro t
  simp only [List.getElem?_set, List.length_set, rowCells_length]
  by_cases h : t < l.length * 6
  · rw [rowCells_at h, rowCells_at (by rw [List.length_set]; exact h)]
    have hg : (l.set k b).getD (t / 6) zbk = if k = t / 6 then b else l.getD (t / 6) zbk := by
      simp only [List.getD, List.getElem?_set]
      by_cases h1 : k = t / 6
      · rw [if_pos h1, if_pos h1, if_pos (by omega)]; rfl
      · rw [if_neg h1, if_neg h1]
    rw [hg]
    by_cases h1 : k = t / 6
    · rw [if_pos h1]
      have h6 : t % 6 < 6 := Nat.mod_lt _ (by omega)
      have ht : t = k * 6 + t % 6 := by omega
      generalize t % 6 = j at *
      subst ht
      match j, h6 with
      | 0, _ | 1, _ | 2, _ | 3, _ | 4, _ | 5, _ => simp [bkCell]; omega
    · rw [if_neg h1, if_neg (by omega), if_neg (by omega), if_neg (by omega), if_neg (by omega), if_neg (by omega), if_neg (by omega)]
  · rw [List.getElem?_eq_none (l := rowCells l) (by rw [rowCells_length]; omega), List.getElem?_eq_none (l := rowCells (l.set k b)) (by rw [rowCells_length, List.length_set]; omega)]
    rw [if_neg (by omega), if_neg (by omega), if_neg (by omega), if_neg (by omega), if_neg (by omega), if_neg (by omega)]

theorem info51 : (Ybaf.prog.info? 51).map (fun i => (i.zero, i.size, i.bytes)) = some (some (bkVal zbk), 6, 80) := by kernel_rfl
theorem info49 : (Ybaf.prog.info? 49).map (fun i => (i.zero, i.size, i.bytes)) = some (some (.pointer none), 1, 8) := by kernel_rfl
theorem run_mk23 (c : Nat) (hc : c ≤ 1759218604441) (w : World) : (Instr.makeSlice 23 (.int .i64 c) (.int .i64 c)).run Ybaf.prog w = .ok (.slice (some ⟨w.heap.size, 0, none⟩) c c) (w.alloc (.cells (rowCells (List.replicate c zbk)).toArray 51)) := by
  obtain ⟨i0, hi0, hz0, hz1, hz2⟩ := info_parts info51
  have e : madeCells (bkVal zbk).cells (c * 6) = (rowCells (List.replicate c zbk)).toArray := by
    simp [madeCells, rowCells, bkVal, Value.cells]
    apply Array.ext
    · simp
    · intro i h1 h2
      have h3 : i % 6 < 6 := Nat.mod_lt _ (by omega)
      have h4 : i / 6 < c := by simp at h1; omega
      simp [h4]
      generalize i % 6 = j at h3
      match j, h3 with
      | 0, _ | 1, _ | 2, _ | 3, _ | 4, _ | 5, _ => simp [bkCell]
  rw [run_make w 23 51 i0 (bkVal zbk) Ybaf.underlying23 hi0 hz0 .i64 .i64 c c (by omega) (by omega) (by rw [hz2]; omega) (by omega)]
  simp only [Int.toNat_natCast, hz1, e]

/-- A row of m pointers, the first j of them to the bookings of block b. -/
def ptrCells (b m j : Nat) : List Value := (List.range m).map fun t => if t < j then .pointer (some ⟨b, t * 6, none⟩) else .pointer none
theorem ptrCells_get {b m j t : Nat} (ht : t < m) : (ptrCells b m j)[t]? = some (if t < j then .pointer (some ⟨b, t * 6, none⟩) else .pointer none) := by
  unfold ptrCells; rw [List.getElem?_map, List.getElem?_range ht]; rfl
theorem ptrCells_set {b m j : Nat} (hj : j < m) : (ptrCells b m j).set j (.pointer (some ⟨b, j * 6, none⟩)) = ptrCells b m (j + 1) := by
  apply List.ext_getElem?
  intro t
  rw [List.getElem?_set]
  by_cases ht : t < m
  · rw [ptrCells_get ht, ptrCells_get ht]
    by_cases h : j = t
    · subst h
      rw [if_pos rfl, if_pos (by simpa [ptrCells] using hj), if_pos (by omega)]
    · rw [if_neg h]
      by_cases h2 : t < j
      · rw [if_pos h2, if_pos (by omega)]
      · rw [if_neg h2, if_neg (by omega)]
  · have hn : ∀ j, (ptrCells b m j)[t]? = none := fun j => List.getElem?_eq_none (by simp [ptrCells]; omega)
    rw [hn, hn, if_neg (by omega)]
theorem run_mk48 (c : Nat) (hc : c ≤ 1759218604441) (w : World) (bb : Nat) : (Instr.makeSlice 48 (.int .i64 c) (.int .i64 c)).run Ybaf.prog w = .ok (.slice (some ⟨w.heap.size, 0, none⟩) c c) (w.alloc (.cells (ptrCells bb c 0).toArray 49)) := by
  obtain ⟨i0, hi0, hz0, hz1, hz2⟩ := info_parts info49
  have e : madeCells (Value.pointer none).cells (c * 1) = (ptrCells bb c 0).toArray := by
    rw [Nat.mul_one]
    simp [madeCells, ptrCells, Value.cells]
    apply Array.ext
    · simp
    · intro i h1 h2
      simp [Nat.mod_one]
  rw [run_make w 48 49 i0 (.pointer none) Ybaf.underlying48 hi0 hz0 .i64 .i64 c c (by omega) (by omega) (by rw [hz2]; omega) (by omega)]
  simp only [Int.toNat_natCast, hz1, e]

/-- One entry: its ID, its bookings and where they lie. -/
structure Ent where
  id : ByteArray
  ao : Option Addr
  cap : Nat
  bs : List Bk
def noEnt : Ent := ⟨noStr, none, 0, []⟩
/-- What the law's own helper holds for an entry without bookings. -/
def oneBk (id : ByteArray) : Bk := ⟨noStr, noStr, 0, 0, noStr, id⟩
def heldOf (e : Ent) : List Bk := if e.bs = [] then [oneBk e.id] else e.bs
theorem rowCells_one' (id : ByteArray) : rowCells [oneBk id] = [.string noStr, .string noStr, .int .i64 0, .int .i64 0, .string noStr, .string id] := by
  simp [rowCells, show List.range 6 = [0, 1, 2, 3, 4, 5] from rfl, bkCell, oneBk]
theorem heldOf_pos (e : Ent) : 0 < (heldOf e).length := by
  unfold heldOf
  split
  · simp
  · rename_i h; exact List.length_pos_iff.2 h
theorem heldOf_le (e : Ent) (h : e.bs.length ≤ 1759218604441) : (heldOf e).length ≤ 1759218604441 := by
  unfold heldOf
  split
  · simp
  · exact h

/-- The slice at ao holds these bookings. -/
def BkRow (w : World) (ao : Option Addr) (bs : List Bk) : Prop := bs = [] ∨ ∃ b off, ao = some ⟨b, off, none⟩ ∧ b < w.heap.size ∧ ∀ j v, (rowCells bs)[j]? = some v → w.cell? ⟨b, off + j, none⟩ = some v
theorem BkRow.keep {w w' : World} {ao : Option Addr} {bs : List Bk} (h : BkRow w ao bs) (hb : Below w.heap.size w w') : BkRow w' ao bs := by
  rcases h with h | ⟨b, off, rfl, hl, hc⟩
  · exact .inl h
  · exact .inr ⟨b, off, rfl, Nat.lt_of_lt_of_le hl hb.size, fun j v hj => (hb.cell (p := ⟨b, off + j, none⟩) hl).trans (hc j v hj)⟩
theorem BkRow.cells {w : World} {ao : Option Addr} {bs : List Bk} (h : BkRow w ao bs) : 0 < (rowCells bs).length → ∃ ad, ao = some ad ∧ ∀ j v, (rowCells bs)[j]? = some v → w.cell? (ad.add j) = some v := by
  intro h0
  rcases h with rfl | ⟨b, off, rfl, _, hc⟩
  · simp [rowCells] at h0
  · exact ⟨_, rfl, fun j v hj => by rw [Addr.add_lit]; exact hc j v hj⟩

/-- The slice at ao holds these entries, two cells each. -/
def EntRow (w : World) (ao : Option Addr) (es : List Ent) : Prop :=
  (∀ e ∈ es, BkRow w e.ao e.bs ∧ e.bs.length ≤ 1759218604441 ∧ e.id.size ≤ maxLen) ∧
  (es = [] ∨ ∃ b off, ao = some ⟨b, off, none⟩ ∧ b < w.heap.size ∧ ∀ i, i < es.length → w.cell? ⟨b, off + i * 2, none⟩ = some (.string (es.getD i noEnt).id) ∧ w.cell? ⟨b, off + i * 2 + 1, none⟩ = some (.slice (es.getD i noEnt).ao (es.getD i noEnt).bs.length (es.getD i noEnt).cap))
theorem EntRow.keep {w w' : World} {ao : Option Addr} {es : List Ent} (h : EntRow w ao es) (hb : Below w.heap.size w w') : EntRow w' ao es := by
  refine ⟨fun s hs => ⟨(h.1 s hs).1.keep hb, (h.1 s hs).2⟩, ?_⟩
  rcases h.2 with h | ⟨b, off, rfl, hl, hc⟩
  · exact .inl h
  · exact .inr ⟨b, off, rfl, Nat.lt_of_lt_of_le hl hb.size, fun i hi => ⟨(hb.cell (p := ⟨b, off + i * 2, none⟩) hl).trans (hc i hi).1, (hb.cell (p := ⟨b, off + i * 2 + 1, none⟩) hl).trans (hc i hi).2⟩⟩
theorem getD_mem {es : List Ent} {k : Nat} (hk : k < es.length) : es.getD k noEnt ∈ es := by simp [List.getD, hk]
theorem EntRow.at {w : World} {ao : Option Addr} {es : List Ent} (h : EntRow w ao es) {k : Nat} (hk : k < es.length) :
    ∃ b off, ao = some ⟨b, off, none⟩ ∧ b < w.heap.size ∧ w.cell? ⟨b, off + k * 2, none⟩ = some (.string (es.getD k noEnt).id) ∧ w.cell? ⟨b, off + k * 2 + 1, none⟩ = some (.slice (es.getD k noEnt).ao (es.getD k noEnt).bs.length (es.getD k noEnt).cap) ∧ BkRow w (es.getD k noEnt).ao (es.getD k noEnt).bs ∧ (es.getD k noEnt).bs.length ≤ 1759218604441 ∧ (es.getD k noEnt).id.size ≤ maxLen := by
  have hm := h.1 _ (getD_mem hk)
  rcases h.2 with rfl | ⟨b, off, rfl, hl, hc⟩
  · simp at hk
  · exact ⟨b, off, rfl, hl, (hc k hk).1, (hc k hk).2, hm.1, hm.2.1, hm.2.2⟩

/-- The last of the first k entries with this ID. -/
def lastTo (es : List Ent) : Nat → List UInt8 → Option Nat
  | 0, _ => none
  | k + 1, s => if (es.getD k noEnt).id.data.toList = s then some k else lastTo es k s
theorem lastTo_lt {es : List Ent} {s : List UInt8} : ∀ {k i : Nat}, lastTo es k s = some i → i < k ∧ (es.getD i noEnt).id.data.toList = s
  | 0, i, h => by simp [lastTo] at h
  | k + 1, i, h => by
    unfold lastTo at h
    split at h
    · cases h; rename_i h1; exact ⟨by omega, h1⟩
    · have := lastTo_lt h; exact ⟨by omega, this.2⟩

/-- How an element of the map reads: as itself. -/
def selfElem (v : Value) : Option (DataW Value × List MemPlace) := some (.held v, [])
theorem selfElem_inv {v v' : Value} {ps : List MemPlace} (h : selfElem v = some (.held v', ps)) : v = v' := by simp [selfElem] at h; exact h.1
end Go.Proofs.YbulkejacFmt
