/- (*Calendar).held by its two contracts. -/
import Derived.Test.YbulkejacFmtItin
namespace Go.Proofs.YbulkejacFmt
open Go.RowKit Go.Extern.Stop Go.Stop Go.Extern
set_option linter.unusedVariables false
attribute [local go_sem] Ybaf.call11 Ybaf.guard Ybaf.fmt0 Ybaf.fmt0r Ybaf.op9_113w Ybaf.ptr82 Ybaf.elem82 Ybaf.isError82' Ybaf.ptr70 Ybaf.elem70 Ybaf.isError70'

set_option maxHeartbeats 1000000 in
set_option maxRecDepth 100000 in
theorem held5_found (cb M pb bb : Nat) (id : ByteArray) (hs : List Bk) (w : World) (h : At w cb M pb bb id hs)
    (hok : ∀ w2, Below w.heap.size w w2 → (Instr.lookup 27 (.map (some M)) (.string id) true).run Ybaf.prog w2 = .ok (.tuple #[.slice (some ⟨pb, 0, none⟩) hs.length hs.length, .bool true]) w2) :
    Calls Ybaf.prog 5 #[.pointer (some ⟨cb, 0, none⟩), .string id] w fun x w' => ∃ g, x = .returned (.tuple #[.agg #[.string id, .string (hs.getD 0 zbk).subj, .slice (some ⟨g, 0, none⟩) hs.length hs.length], .nilIface]) ∧ w.heap.size ≤ g ∧ Blk w' g (rowCells hs) 51 ∧ Below w.heap.size w w' := by
  have hbA : Below w.heap.size w (w.alloc (.cells #[.string noStr, .string noStr, .slice none 0 0] 53)) := (Below.refl _ _).alloc (Nat.le_refl _) _
  have hlook := hok _ hbA
  have c9 := h.cal
  have hcl := h.cbl
  have hA : At (w.alloc (.cells #[.string noStr, .string noStr, .slice none 0 0] 53)) cb M pb bb id hs :=
    ⟨(hbA.cell (p := ⟨cb, 9, none⟩) h.cbl).trans h.cal, Nat.lt_of_lt_of_le h.cbl hbA.size, fun w2 h2 => h.look w2 (hbA.trans (h2.mono hbA.size)), h.ptrs.below hbA h.ptrs.lt, h.row.below hbA h.row.lt, h.pos, h.le⟩
  have HC := hide (itin8_any cb M pb bb id hs _ hA)
  have HB3 := hide (Blk.new w [.string noStr, .string noStr, .slice none 0 0] 53)
  have HBA := hide hbA
  clear hA hbA hok h
  generalize (hs.getD 0 zbk).subj = sj at *
  go_enter Ybaf.func5, Ybaf.ntmps5
  go_wp2_with fail
  refine HC.out.mono ?_
  rintro e w1 ⟨g, rfl, hg, hB, hbel⟩
  have hgw : g ≠ w.heap.size := by simp at hg; omega
  have hb3 : Blk w1 w.heap.size [.string noStr, .string noStr, .slice none 0 0] 53 := HB3.out.below hbel (by simp)
  have hbw : Below w.heap.size w w1 := HBA.out.trans (hbel.mono (by simp))
  have o0 := hb3.cell 0
  have o1 := hb3.cell 1
  have o2 := hb3.cell 2
  have hfz := hb3.frozen
  have HF : Hid (Blk ((((w1.setCell ⟨w.heap.size, 0, none⟩ (.string id)).setCell ⟨w.heap.size, 1, none⟩ (.string sj)).setCell ⟨w.heap.size, 2, none⟩ (.slice (some ⟨g, 0, none⟩) hs.length hs.length))) g (rowCells hs) 51 ∧
      Below w.heap.size w ((((w1.setCell ⟨w.heap.size, 0, none⟩ (.string id)).setCell ⟨w.heap.size, 1, none⟩ (.string sj)).setCell ⟨w.heap.size, 2, none⟩ (.slice (some ⟨g, 0, none⟩) hs.length hs.length)))) :=
    ⟨((hB.setCell_ne (a := ⟨w.heap.size, 0, none⟩) hgw _).setCell_ne (a := ⟨w.heap.size, 1, none⟩) hgw _).setCell_ne (a := ⟨w.heap.size, 2, none⟩) hgw _, ((hbw.setCell (p := ⟨w.heap.size, 0, none⟩) (Nat.le_refl _) _).setCell (p := ⟨w.heap.size, 1, none⟩) (Nat.le_refl _) _).setCell (p := ⟨w.heap.size, 2, none⟩) (Nat.le_refl _) _⟩
  have hg2 : w.heap.size ≤ g := by simp at hg; omega
  clear hB hbel hb3 hbw hlook c9
  simp only [List.getElem?_cons_zero, List.getElem?_cons_succ] at o0 o1 o2
  go_wp2
  exact bodyPost_ret (v := .tuple #[.agg #[.string id, .string sj, .slice (some ⟨g, 0, none⟩) hs.length hs.length], .nilIface]) (by simp [results, Ybaf.results5, go_sem, o0, o1, o2]) rfl ⟨g, rfl, hg2, HF.out⟩

set_option maxHeartbeats 1000000 in
set_option maxRecDepth 100000 in
theorem held5_none (F : Interp) (cb M : Nat) (id : ByteArray) (a : Addr) (s : ByteArray) (w : World) (hF : F.answers w.tape) (hg : w.cell? ⟨0, 0, none⟩ = some (.iface 82 (.pointer (some a)))) (hs : w.cell? a = some (.string s))
    (hc : w.cell? ⟨cb, 9, none⟩ = some (.map (some M)))
    (hok : ∀ w2, Below w.heap.size w w2 → (Instr.lookup 27 (.map (some M)) (.string id) true).run Ybaf.prog w2 = .ok (.tuple #[.slice none 0 0, .bool false]) w2) :
    Calls Ybaf.prog 5 #[.pointer (some ⟨cb, 0, none⟩), .string id] w fun x w' => ∃ N, x = .returned (.tuple #[.agg #[.string noStr, .string noStr, .slice none 0 0], .iface 70 (.pointer (some ⟨N, 0, none⟩))]) ∧ w'.cell? ⟨N, 1, none⟩ = some (.iface 82 (.pointer (some a))) ∧ N < w'.heap.size ∧ Below w.heap.size w w' := by
  have hF' := answers_open hF
  have hbA : Below w.heap.size w (w.alloc (.cells #[.string noStr, .string noStr, .slice none 0 0] 53)) := (Below.refl _ _).alloc (Nat.le_refl _) _
  have hlook := hok _ hbA
  have hcl : cb < w.heap.size := World.block_lt_of_cell? _ _ hc
  have h0 : 0 < w.heap.size := World.block_lt_of_cell? _ _ hg
  have h01 : 0 < w.heap.size + 1 := by omega
  have h02 : 0 < w.heap.size + 1 + 1 := by omega
  have ha : a.block < w.heap.size := World.block_lt_of_cell? _ _ hs
  have hs2 : ∀ o1 o2, ((w.alloc o1).alloc o2).cell? a = some (.string s) := fun o1 o2 => (World.cell?_alloc_lt _ _ _ (by simp; omega)).trans ((World.cell?_alloc_lt _ _ _ ha).trans hs)
  have hop := fun o1 o2 => Ybaf.opPlain82_119w "fmt.errorf" a s ((w.alloc o1).alloc o2) (hs2 o1 o2)
  clear hok hbA
  go_enter Ybaf.func5, Ybaf.ntmps5
  go_wp2
  refine bodyPost_ret (v := .tuple #[.agg #[.string noStr, .string noStr, .slice none 0 0], .iface 70 (.pointer (some ⟨w.heap.size + 1 + 1, 0, none⟩))]) (by simp [results, Ybaf.results5, go_sem]) rfl ⟨w.heap.size + 1 + 1, rfl, by simp [go_sem], by simp [go_sem], ?_⟩
  exact (((((Below.refl _ _).alloc (Nat.le_refl _) _).alloc (by simp) _).alloc (by simp; omega) _).drew)
end Go.Proofs.YbulkejacFmt
