/- (*Calendar).itinerary by contract. -/
import Derived.Test.YbulkejacFmtHeld
namespace Go.Proofs.YbulkejacFmt
open Go.RowKit
set_option linter.unusedVariables false

/-- What a calendar's pointer leads to: a map that holds, at this ID, a row of pointers to these bookings. -/
structure At (w : World) (cb M pb bb : Nat) (id : ByteArray) (hs : List Bk) : Prop where
  cal : w.cell? ⟨cb, 9, none⟩ = some (.map (some M))
  cbl : cb < w.heap.size
  look : ∀ w2, Below w.heap.size w w2 → (Instr.lookup 27 (.map (some M)) (.string id) false).run Ybaf.prog w2 = .ok (.slice (some ⟨pb, 0, none⟩) hs.length hs.length) w2
  ptrs : Blk w pb (ptrCells bb hs.length hs.length) 49
  row : Blk w bb (rowCells hs) 51
  pos : 0 < hs.length
  le : hs.length ≤ 1759218604441

theorem bkCells6 {w : World} {b : Nat} {l : List Bk} {T : TypeId} (h : Blk w b (rowCells l) T) {k : Nat} (hk : k < l.length) (j : Nat) (hj : j < 6) : w.cell? ⟨b, k * 6 + j, none⟩ = some (bkCell (l.getD k zbk) j) := by
  rw [h.cell, rowCells_get hk hj]

theorem blk_three (w : World) (c1 c2 c3 : List Value) (T1 T2 T3 : TypeId) :
    Blk (((w.alloc (.cells c1.toArray T1)).alloc (.cells c2.toArray T2)).alloc (.cells c3.toArray T3)).drew w.heap.size c1 T1 ∧
    Blk (((w.alloc (.cells c1.toArray T1)).alloc (.cells c2.toArray T2)).alloc (.cells c3.toArray T3)).drew (w.heap.size + 1) c2 T2 ∧
    Blk (((w.alloc (.cells c1.toArray T1)).alloc (.cells c2.toArray T2)).alloc (.cells c3.toArray T3)).drew (w.heap.size + 1 + 1) c3 T3 ∧
    Below w.heap.size w (((w.alloc (.cells c1.toArray T1)).alloc (.cells c2.toArray T2)).alloc (.cells c3.toArray T3)).drew := by
  have h2 := Blk.new (w.alloc (.cells c1.toArray T1)) c2 T2
  rw [show (w.alloc (.cells c1.toArray T1)).heap.size = w.heap.size + 1 by simp] at h2
  have h3 := Blk.new ((w.alloc (.cells c1.toArray T1)).alloc (.cells c2.toArray T2)) c3 T3
  rw [show ((w.alloc (.cells c1.toArray T1)).alloc (.cells c2.toArray T2)).heap.size = w.heap.size + 1 + 1 by simp] at h3
  exact ⟨(((Blk.new w c1 T1).alloc _).alloc _).drew, (h2.alloc _).drew, h3.drew, ((((Below.refl _ _).alloc (Nat.le_refl _) _).alloc (by simp) _).alloc (by simp; omega) _).drew⟩
/-- The first k of the row laid, the others zero. -/
def part (hs : List Bk) (k : Nat) : List Bk := hs.take k ++ List.replicate (hs.length - k) zbk
theorem part_length {hs : List Bk} {k : Nat} (hk : k ≤ hs.length) : (part hs k).length = hs.length := by simp [part]; omega
theorem part_set {hs : List Bk} {k : Nat} (hk : k < hs.length) : (part hs k).set k (hs.getD k zbk) = part hs (k + 1) := by
  apply List.ext_getElem?
  intro t
  have hl : (hs.take k).length = k := by simp; omega
  have hl2 : (hs.take (k + 1)).length = k + 1 := by simp; omega
  rw [List.getElem?_set, part_length (by omega)]
  unfold part
  by_cases h : k = t
  · subst h
    rw [if_pos rfl, if_pos hk, List.getElem?_append_left (by omega), List.getElem?_take, if_pos (by omega)]
    simp [List.getD, hk]
  · rw [if_neg h]
    by_cases h2 : t < k
    · rw [List.getElem?_append_left (by omega), List.getElem?_append_left (by omega), List.getElem?_take, List.getElem?_take, if_pos h2, if_pos (by omega)]
    · rw [List.getElem?_append_right (by omega), List.getElem?_append_right (by omega), hl, hl2]
      simp only [List.getElem?_replicate]
      by_cases h3 : t < hs.length
      · rw [if_pos (by omega), if_pos (by omega)]
      · rw [if_neg (by omega), if_neg (by omega)]
theorem Blk.set6 {w : World} {g : Nat} {l : List Bk} {T : TypeId} (h : Blk w g (rowCells l) T) {k : Nat} (hk : k < l.length) (b : Bk) :
    Blk ((((((w.setCell ⟨g, k * 6, none⟩ (.string b.id)).setCell ⟨g, k * 6 + 1, none⟩ (.string b.obj)).setCell ⟨g, k * 6 + 2, none⟩ (.int .i64 b.st)).setCell ⟨g, k * 6 + 3, none⟩ (.int .i64 b.en)).setCell ⟨g, k * 6 + 4, none⟩ (.string b.subj)).setCell ⟨g, k * 6 + 5, none⟩ (.string b.itin)) g (rowCells (l.set k b)) T := by
  rw [← rowCells_set b hk]
  exact (((((h.setCell _ _).setCell _ _).setCell _ _).setCell _ _).setCell _ _).setCell _ _
theorem Blk.set6_ne {w : World} {g g' : Nat} {cs : List Value} {T : TypeId} (h : Blk w g' cs T) (hne : g' ≠ g) (o0 o1 o2 o3 o4 o5 : Nat) (v0 v1 v2 v3 v4 v5 : Value) :
    Blk ((((((w.setCell ⟨g, o0, none⟩ v0).setCell ⟨g, o1, none⟩ v1).setCell ⟨g, o2, none⟩ v2).setCell ⟨g, o3, none⟩ v3).setCell ⟨g, o4, none⟩ v4).setCell ⟨g, o5, none⟩ v5) g' cs T :=
  (((((h.setCell_ne (a := ⟨g, o0, none⟩) hne _).setCell_ne (a := ⟨g, o1, none⟩) hne _).setCell_ne (a := ⟨g, o2, none⟩) hne _).setCell_ne (a := ⟨g, o3, none⟩) hne _).setCell_ne (a := ⟨g, o4, none⟩) hne _).setCell_ne (a := ⟨g, o5, none⟩) hne _
theorem below_set6 {B : Nat} {w0 w : World} {g : Nat} (h : Below B w0 w) (hg : B ≤ g) (o0 o1 o2 o3 o4 o5 : Nat) (v0 v1 v2 v3 v4 v5 : Value) :
    Below B w0 ((((((w.setCell ⟨g, o0, none⟩ v0).setCell ⟨g, o1, none⟩ v1).setCell ⟨g, o2, none⟩ v2).setCell ⟨g, o3, none⟩ v3).setCell ⟨g, o4, none⟩ v4).setCell ⟨g, o5, none⟩ v5) :=
  (((((h.setCell (p := ⟨g, o0, none⟩) hg _).setCell (p := ⟨g, o1, none⟩) hg _).setCell (p := ⟨g, o2, none⟩) hg _).setCell (p := ⟨g, o3, none⟩) hg _).setCell (p := ⟨g, o4, none⟩) hg _).setCell (p := ⟨g, o5, none⟩) hg _

set_option maxHeartbeats 1000000 in
set_option maxRecDepth 100000 in
theorem itin8_any (cb M pb bb : Nat) (id : ByteArray) (hs : List Bk) (w : World) (h : At w cb M pb bb id hs) :
    Calls Ybaf.prog 8 #[.pointer (some ⟨cb, 0, none⟩), .string id] w fun x w' => ∃ g, x = .returned (.agg #[.string id, .string (hs.getD 0 zbk).subj, .slice (some ⟨g, 0, none⟩) hs.length hs.length]) ∧ w.heap.size ≤ g ∧ Blk w' g (rowCells hs) 51 ∧ Below w.heap.size w w' := by
  have HH := hide h
  have hpos : (0 : Int) < ((hs.length : Nat) : Int) := by have := h.pos; omega
  have hle := h.le
  have hmk := run_mk23 hs.length hle
  have hbA : Below w.heap.size w (w.alloc (.cells #[.string noStr, .string noStr, .slice none 0 0] 53)) := (Below.refl _ _).alloc (Nat.le_refl _) _
  have hlook := h.look _ hbA
  have c9 := h.cal
  have p0 : w.cell? ⟨pb, 0, none⟩ = some (.pointer (some ⟨bb, 0, none⟩)) := by
    rw [h.ptrs.cell, ptrCells_get h.pos, if_pos h.pos]
  have s0 : w.cell? ⟨bb, 4, none⟩ = some (.string (hs.getD 0 zbk).subj) := by
    have := bkCells6 h.row h.pos 4 (by omega)
    rwa [Nat.zero_mul, Nat.zero_add] at this
  have hbl := h.row.lt
  have hpl := h.ptrs.lt
  have hcl := h.cbl
  have hposN := h.pos
  have n1 : pb < w.heap.size + 1 := by omega
  have n2 : pb < w.heap.size + 1 + 1 := by omega
  have n3 : pb < w.heap.size + 2 := by omega
  have m1 : bb < w.heap.size + 1 := by omega
  have m2 : bb < w.heap.size + 1 + 1 := by omega
  have m3 : bb < w.heap.size + 2 := by omega
  clear h hbA
  generalize (hs.getD 0 zbk).subj = sj at *
  go_enter Ybaf.func8, Ybaf.ntmps8
  go_upto_region 2 with fail
  go_cut [6] (fun v wc => ∃ ib g, v = .pointer (some ⟨ib, 0, none⟩) ∧ ib ≠ g ∧ w.heap.size < ib ∧ w.heap.size < g ∧ Blk wc ib [.string id, .string sj, .slice (some ⟨g, 0, none⟩) hs.length hs.length] 53 ∧ Blk wc g (rowCells (List.replicate hs.length zbk)) 51 ∧ Blk wc w.heap.size [.string noStr, .string noStr, .slice none 0 0] 53 ∧ Below w.heap.size w wc)
  case first =>
    go_wp2
    go_region
    all_goals go_wp2
    all_goals go_meet
    case rel =>
      have := blk_three w [.string noStr, .string noStr, .slice none 0 0] (rowCells (List.replicate hs.length zbk)) [.string id, .string sj, .slice (some ⟨w.heap.size + 1, 0, none⟩) hs.length hs.length] 53 51 53
      exact ⟨w.heap.size + 1 + 1, w.heap.size + 1, rfl, by omega, by omega, by omega, this.2.2.1, this.2.1, this.1, this.2.2.2⟩
    case rel =>
      have := blk_three w [.string noStr, .string noStr, .slice none 0 0] [.string id, .string sj, .slice (some ⟨w.heap.size + 1 + 1, 0, none⟩) hs.length hs.length] (rowCells (List.replicate hs.length zbk)) 53 53 51
      exact ⟨w.heap.size + 1, w.heap.size + 1 + 1, rfl, by omega, by omega, by omega, this.2.1, this.2.2.1, this.1, this.2.2.2⟩
  case rest =>
    obtain ⟨ib, g, rfl, hne, hib, hg, hB1, hB2, hB3, hbel⟩ := hcut
    have P1 := hide hB1
    have P2 := hide hB2
    have P3 := hide hB3
    have P4 := hide hbel
    clear hB1 hB2 hB3 hbel hlook c9 p0 s0 n1 n2 n3 m1 m2 m3 hmk
    go_wp2
    go_loopg [7, 8, 28] hs.length (fun gh _ _ i wr => ∃ k : Nat, k ≤ hs.length ∧ gh = hs.length - k ∧ i = .int .i64 k ∧ Blk wr ib [.string id, .string sj, .slice (some ⟨g, 0, none⟩) hs.length hs.length] 53 ∧ Blk wr g (rowCells (part hs k)) 51 ∧ Blk wr w.heap.size [.string noStr, .string noStr, .slice none 0 0] 53 ∧ Below w.heap.size w wr)
    case atStart => exact ⟨0, Nat.zero_le _, by omega, rfl, P1.out, by have := P2.out; simpa [part] using this, P3.out, P4.out⟩
    case round =>
      clear P1 P2 P3 P4
      obtain ⟨k, hk, hgk, rfl, hB1, hB2, hB3, hbel⟩ := hrel
      have P1 := hide hB1
      have P2 := hide hB2
      have P3 := hide hB3
      have P4 := hide hbel
      by_cases hkn : k < hs.length
      · have hki : (k : Int) < ((hs.length : Nat) : Int) := by omega
        have i2 := hB1.cell 2
        have pk : wr.cell? ⟨pb, k, none⟩ = some (.pointer (some ⟨bb, k * 6, none⟩)) := by
          rw [hbel.cell (p := ⟨pb, k, none⟩) hpl, HH.out.ptrs.cell, ptrCells_get hkn, if_pos hkn]
        have hrow := HH.out.row.below hbel hbl
        have q : ∀ j, j < 6 → wr.cell? ⟨bb, k * 6 + j, none⟩ = some (bkCell (hs.getD k zbk) j) := fun j hj => bkCells6 hrow hkn j hj
        have q0 := q 0 (by omega)
        have q1 := q 1 (by omega)
        have q2 := q 2 (by omega)
        have q3 := q 3 (by omega)
        have q4 := q 4 (by omega)
        have q5 := q 5 (by omega)
        have r : ∀ j, j < 6 → wr.cell? ⟨g, k * 6 + j, none⟩ = some (bkCell ((part hs k).getD k zbk) j) := fun j hj => bkCells6 hB2 (by rw [part_length hk]; exact hkn) j hj
        have r0 := r 0 (by omega)
        have r1 := r 1 (by omega)
        have r2 := r 2 (by omega)
        have r3 := r 3 (by omega)
        have r4 := r 4 (by omega)
        have r5 := r 5 (by omega)
        have hfz := hB2.frozen
        have HE := hide (Blk.set6 (k := k) hB2 (by rw [part_length hk]; exact hkn) (hs.getD k zbk))
        rw [part_set hkn] at HE
        clear q r hrow hB1 hB2 hB3 hbel
        generalize (part hs k).getD k zbk = old at *
        generalize hs.getD k zbk = b at *
        obtain ⟨bi, bo, bst, ben, bsu, bit⟩ := b
        simp only [bkCell, Nat.add_zero] at q0 q1 q2 q3 q4 q5 r0 r1 r2 r3 r4 r5 i2 HE
        have HE1 := hide (P1.out.set6_ne hne (k * 6) (k * 6 + 1) (k * 6 + 2) (k * 6 + 3) (k * 6 + 4) (k * 6 + 5) (.string bi) (.string bo) (.int .i64 bst) (.int .i64 ben) (.string bsu) (.string bit))
        have HE3 := hide (P3.out.set6_ne (Nat.ne_of_lt hg) (k * 6) (k * 6 + 1) (k * 6 + 2) (k * 6 + 3) (k * 6 + 4) (k * 6 + 5) (.string bi) (.string bo) (.int .i64 bst) (.int .i64 ben) (.string bsu) (.string bit))
        have HE4 := hide (below_set6 P4.out (Nat.le_of_lt hg) (k * 6) (k * 6 + 1) (k * 6 + 2) (k * 6 + 3) (k * 6 + 4) (k * 6 + 5) (.string bi) (.string bo) (.int .i64 bst) (.int .i64 ben) (.string bsu) (.string bit))
        go_wp2
        go_region
        go_wp2
        go_roundg (hs.length - (k + 1))
        case measure => omega
        case rel => exact ⟨k + 1, by omega, rfl, by go_num, HE1.out.drew, HE.out.drew, HE3.out.drew, HE4.out.drew⟩
      · have hkn' : k = hs.length := by omega
        have hlast : Blk wr g (rowCells hs) 51 := by
          have := hB2
          rw [hkn'] at this
          simpa [part] using this
        have i0 := hB1.cell 0
        have i1 := hB1.cell 1
        have i2 := hB1.cell 2
        have o0 := hB3.cell 0
        have o1 := hB3.cell 1
        have o2 := hB3.cell 2
        have hfz := hB3.frozen
        have hgw := Nat.ne_of_gt hg
        have HF : Hid (Blk ((((wr.setCell ⟨w.heap.size, 0, none⟩ (.string id)).setCell ⟨w.heap.size, 1, none⟩ (.string sj)).setCell ⟨w.heap.size, 2, none⟩ (.slice (some ⟨g, 0, none⟩) hs.length hs.length))) g (rowCells hs) 51 ∧
            Below w.heap.size w ((((wr.setCell ⟨w.heap.size, 0, none⟩ (.string id)).setCell ⟨w.heap.size, 1, none⟩ (.string sj)).setCell ⟨w.heap.size, 2, none⟩ (.slice (some ⟨g, 0, none⟩) hs.length hs.length)))) :=
          ⟨((hlast.setCell_ne (a := ⟨w.heap.size, 0, none⟩) hgw _).setCell_ne (a := ⟨w.heap.size, 1, none⟩) hgw _).setCell_ne (a := ⟨w.heap.size, 2, none⟩) hgw _, ((hbel.setCell (p := ⟨w.heap.size, 0, none⟩) (Nat.le_refl _) _).setCell (p := ⟨w.heap.size, 1, none⟩) (Nat.le_refl _) _).setCell (p := ⟨w.heap.size, 2, none⟩) (Nat.le_refl _) _⟩
        clear hB1 hB2 hB3 hbel hlast
        simp only [List.getElem?_cons_zero, List.getElem?_cons_succ] at i0 i1 i2 o0 o1 o2
        go_wp2
        exact bodyPost_ret (v := .agg #[.string id, .string sj, .slice (some ⟨g, 0, none⟩) hs.length hs.length]) (by simp [results, Ybaf.results8, go_sem, o0, o1, o2]) rfl ⟨g, rfl, Nat.le_of_lt hg, HF.out⟩
end Go.Proofs.YbulkejacFmt
