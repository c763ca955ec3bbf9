/- The calendar that the law builds: its map after k entries. No walk here. -/
import Derived.Test.YbulkejacFmtLook
namespace Go.Proofs.YbulkejacFmt
open Go.RowKit Go.ChangeMaps
set_option linter.unusedVariables false

theorem keyed9 : Maps.Keyed Ybaf.prog 9 := Maps.string_keyed Ybaf.underlying9
theorem zero48 (w : World) : (zeroValue 48).run Ybaf.prog w = .ok (.slice none 0 0) w := by kernel_rfl
theorem key9 {s : ByteArray} (hs : s.size ≤ maxLen) : keyOf Ybaf.prog 9 (.string s) = some (.string s.data.toList)   := WideMaps.keyOf_string_mk Ybaf.underlying9 hs
theorem isKey (s : List UInt8) {b : ByteArray} (hb : b.size ≤ maxLen) (e : b.data.toList = s) : WideAt.IsKeyLit (.string s) := e ▸ keyed9.key (key9 hb)

/-- What the map holds at an ID after k entries. -/
def Holds (es : List Ent) (k : Nat) (D : DataW Value) (wr : World) : Prop := ∀ s : ByteArray, s.size ≤ maxLen →
  match lastTo es k s.data.toList with
  | none => Maps.has D (.string s.data.toList) = false ∧ ∀ z, D.atKey (.string s.data.toList) z = z
  | some i => Maps.has D (.string s.data.toList) = true ∧ ∃ pb bb, (∀ z, D.atKey (.string s.data.toList) z = .held (.slice (some ⟨pb, 0, none⟩) (heldOf (es.getD i noEnt)).length (heldOf (es.getD i noEnt)).length)) ∧
      Blk wr pb (ptrCells bb (heldOf (es.getD i noEnt)).length (heldOf (es.getD i noEnt)).length) 49 ∧ Blk wr bb (rowCells (heldOf (es.getD i noEnt))) 51

structure Cal (w wr : World) (cb M : Nat) (es : List Ent) (k : Nat) : Prop where
  bel : Below w.heap.size w wr
  hM : w.heap.size ≤ M
  hcb : w.heap.size ≤ cb
  ne : cb ≠ M
  cal : wr.cell? ⟨cb, 9, none⟩ = some (.map (some M))
  own : ∃ D : DataW Value, wr.ownsMap Ybaf.prog 9 selfElem M k D ∧ Holds es k D wr

theorem Blk.grown {w w' : World} {b M : Nat} {cs : List Value} {T : TypeId} (h : Blk w b cs T) (hg : w.grownBy w' (some M)) (hne : b ≠ M) : Blk w' b cs T := by
  unfold Blk; rw [hg.block b h.lt (fun e => hne (Option.some.inj e))]; exact h
theorem grown_of_below {w w' : World} (h : Below w.heap.size w w') (row : Option Nat) : w.grownBy w' row := ⟨h.os, h.tape, h.output, h.size, fun k hk _ => h.block k hk⟩
theorem below_of_grown {w w' : World} {M B : Nat} (h : w.grownBy w' (some M)) (hB : B ≤ M) (hs : B ≤ w.heap.size) : Below B w w' := ⟨h.os, h.tape, h.output, h.size, fun k hk => h.block k (by omega) (fun e => by cases e; omega)⟩
theorem owns_ne {w : World} {b M n : Nat} {D : DataW Value} {cs : List Value} {T : TypeId} (h : w.ownsMap Ybaf.prog 9 selfElem M n D) (hb : Blk w b cs T) : b ≠ M := by
  rintro rfl
  obtain ⟨es, clock, hh, _⟩ := h
  unfold Blk at hb
  rw [hb] at hh
  cases hh

theorem Cal.cbl {w wr : World} {cb M k : Nat} {es : List Ent} (h : Cal w wr cb M es k) : cb < wr.heap.size := World.block_lt_of_cell? _ _ h.cal
theorem Cal.keep {w wr w' : World} {cb M k : Nat} {es : List Ent} (h : Cal w wr cb M es k) (hb : Below wr.heap.size wr w') : Cal w w' cb M es k := by
  obtain ⟨D, hD, hH⟩ := h.own
  refine ⟨h.bel.trans (hb.mono h.bel.size), h.hM, h.hcb, h.ne, (hb.cell (p := ⟨cb, 9, none⟩) h.cbl).trans h.cal, D, hD.kept (grown_of_below hb none) (by simp), fun s hs => ?_⟩
  have := hH s hs
  split at this
  · exact this
  · obtain ⟨h1, pb, bb, h2, h3, h4⟩ := this
    exact ⟨h1, pb, bb, h2, h3.below hb h3.lt, h4.below hb h4.lt⟩

theorem Cal.start {w wr : World} {cb M : Nat} (es : List Ent) (bel : Below w.heap.size w wr) (hM : w.heap.size ≤ M) (hcb : w.heap.size ≤ cb) (ne : cb ≠ M) (cal : wr.cell? ⟨cb, 9, none⟩ = some (.map (some M))) (own : wr.ownsMap Ybaf.prog 9 selfElem M 0 (.map [])) : Cal w wr cb M es 0 :=
  ⟨bel, hM, hcb, ne, cal, .map [], own, fun s hs => ⟨rfl, fun z => rfl⟩⟩

/-- One entry more: the run of the store into the map, and what the calendar then is. -/
theorem Cal.step {w wr w1 : World} {cb M k pb bb : Nat} {es : List Ent} (h : Cal w wr cb M es k) (hb : Below wr.heap.size wr w1) (hk : k < maxLen) (hid : (es.getD k noEnt).id.size ≤ maxLen)
    (hp : Blk w1 pb (ptrCells bb (heldOf (es.getD k noEnt)).length (heldOf (es.getD k noEnt)).length) 49) (hr : Blk w1 bb (rowCells (heldOf (es.getD k noEnt))) 51) :
    ∃ w2, (Instr.mapUpdate 27 (.map (some M)) (.string (es.getD k noEnt).id) (.slice (some ⟨pb, 0, none⟩) (heldOf (es.getD k noEnt)).length (heldOf (es.getD k noEnt)).length)).run Ybaf.prog w1 = .ok () w2 ∧ Cal w w2 cb M es (k + 1) := by
  have h1 := h.keep hb
  obtain ⟨D, hD, hH⟩ := h1.own
  obtain ⟨w2, hrun, hown, hgr⟩ := hD.update keyed9 Ybaf.underlying27 hk (key9 hid) (val := .slice (some ⟨pb, 0, none⟩) (heldOf (es.getD k noEnt)).length (heldOf (es.getD k noEnt)).length) rfl
  have hMl := hD.lt
  refine ⟨w2, hrun, h1.bel.trans (below_of_grown hgr h.hM h1.bel.size), h.hM, h.hcb, h.ne, ?_, _, hown, fun s hs => ?_⟩
  · rw [World.cell?_of_block (hgr.block cb h1.cbl (fun e => h.ne (Option.some.inj e)))]
    exact h1.cal
  · have hkl : WideAt.IsKeyLit (.string (es.getD k noEnt).id.data.toList) := keyed9.key (key9 hid)
    unfold lastTo
    by_cases he : (es.getD k noEnt).id.data.toList = s.data.toList
    · rw [if_pos he, ← he]
      exact ⟨Maps.has_put_same hD.isMap hkl _, pb, bb, fun z => Maps.atKey_put_same hD.isMap hkl _ z, hp.grown hgr (owns_ne hD hp), hr.grown hgr (owns_ne hD hr)⟩
    · rw [if_neg he]
      have hne : Lit.string s.data.toList ≠ Lit.string (es.getD k noEnt).id.data.toList := fun e => he (Lit.string.inj e).symm
      rw [Maps.has_put_other hne]
      have := hH s hs
      split at this
      · exact ⟨this.1, fun z => by rw [Maps.atKey_put_other hne]; exact this.2 z⟩
      · obtain ⟨g1, pb', bb', g2, g3, g4⟩ := this
        exact ⟨g1, pb', bb', fun z => by rw [Maps.atKey_put_other hne]; exact g2 z, g3.grown hgr (owns_ne hD g3), g4.grown hgr (owns_ne hD g4)⟩

/-- No entry has the ID: the look-up finds nothing. -/
theorem Cal.lacks {w wr : World} {cb M k : Nat} {es : List Ent} (h : Cal w wr cb M es k) {s : ByteArray} (hs : s.size ≤ maxLen) (hl : lastTo es k s.data.toList = none) (w2 : World) (hb : Below wr.heap.size wr w2) :
    (Instr.lookup 27 (.map (some M)) (.string s) true).run Ybaf.prog w2 = .ok (.tuple #[.slice none 0 0, .bool false]) w2 := by
  obtain ⟨D, hD, hH⟩ := (h.keep hb).own
  have := hH s hs
  rw [hl] at this
  obtain ⟨v, ps, hrun, hv⟩ := hD.look_ok keyed9 Ybaf.underlying27 (zero48 w2) (zd := .held (.slice none 0 0)) (zp := []) rfl (key9 hs)
  rw [this.2] at hv
  rw [hrun, this.1, selfElem_inv hv]

/-- Entry i is the last with the ID: the look-up finds the row of pointers to its bookings. -/
theorem Cal.finds {w wr : World} {cb M k : Nat} {es : List Ent} (h : Cal w wr cb M es k) {s : ByteArray} (hs : s.size ≤ maxLen) {i : Nat} (hl : lastTo es k s.data.toList = some i) (hle : (es.getD i noEnt).bs.length ≤ 1759218604441) :
    ∃ pb bb, At wr cb M pb bb s (heldOf (es.getD i noEnt)) ∧ ∀ w2, Below wr.heap.size wr w2 → (Instr.lookup 27 (.map (some M)) (.string s) true).run Ybaf.prog w2 = .ok (.tuple #[.slice (some ⟨pb, 0, none⟩) (heldOf (es.getD i noEnt)).length (heldOf (es.getD i noEnt)).length, .bool true]) w2 := by
  obtain ⟨D, hD, hH⟩ := h.own
  have := hH s hs
  rw [hl] at this
  obtain ⟨g1, pb, bb, g2, g3, g4⟩ := this
  have hD2 : ∀ w2, Below wr.heap.size wr w2 → w2.ownsMap Ybaf.prog 9 selfElem M k D := fun w2 hb => hD.kept (grown_of_below hb none) (by simp)
  refine ⟨pb, bb, ⟨h.cal, h.cbl, fun w2 hb => ?_, g3, g4, heldOf_pos _, heldOf_le _ hle⟩, fun w2 hb => ?_⟩
  · obtain ⟨v, ps, hrun, hv⟩ := (hD2 w2 hb).lookup keyed9 Ybaf.underlying27 (zero48 w2) (zd := .held (.slice none 0 0)) (zp := []) rfl (key9 hs)
    rw [g2] at hv
    rw [hrun, selfElem_inv hv]
  · obtain ⟨v, ps, hrun, hv⟩ := (hD2 w2 hb).look_ok keyed9 Ybaf.underlying27 (zero48 w2) (zd := .held (.slice none 0 0)) (zp := []) rfl (key9 hs)
    rw [g2] at hv
    rw [hrun, g1, selfElem_inv hv]
end Go.Proofs.YbulkejacFmt
