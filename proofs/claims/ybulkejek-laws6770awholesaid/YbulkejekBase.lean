/- Pointers compared, blocks of cells: small laws for the walks of this seat. -/
import Derived.Test.YbulkejekRows
import Derived.WalkKit
import Derived.LaidEql
namespace Go.Proofs.Ybulkejek
open Go.RowKit

/-- Block b of the world is a row of cells, none of them frozen. -/
def Blk (w : World) (b : Nat) (cs : List Value) (T : TypeId) : Prop := w.heap[b]? = some (.cells cs.toArray T (0, 0))

theorem Blk.cell {w : World} {b : Nat} {cs : List Value} {T : TypeId} (h : Blk w b cs T) (o : Nat) : w.cell? ⟨b, o, none⟩ = cs[o]? := by
  unfold Blk at h; simp [World.cell?, h]
theorem Blk.frozen {w : World} {b : Nat} {cs : List Value} {T : TypeId} (h : Blk w b cs T) (o : Nat) : w.frozen? ⟨b, o, none⟩ = false := by
  unfold Blk at h; simp [World.frozen?, h]
theorem Blk.lt {w : World} {b : Nat} {cs : List Value} {T : TypeId} (h : Blk w b cs T) : b < w.heap.size := by
  unfold Blk at h; exact (Array.getElem?_eq_some_iff.1 h).1
theorem Blk.alloc {w : World} {b : Nat} {cs : List Value} {T : TypeId} (h : Blk w b cs T) (o : Obj) : Blk (w.alloc o) b cs T := by
  unfold Blk; rw [Below.heap_alloc _ _ _ h.lt]; exact h
theorem Blk.drew {w : World} {b : Nat} {cs : List Value} {T : TypeId} (h : Blk w b cs T) : Blk w.drew b cs T := h
theorem Blk.new (w : World) (cs : List Value) (T : TypeId) : Blk (w.alloc (.cells cs.toArray T)) w.heap.size cs T := by
  show (w.heap.push _)[w.heap.size]? = _
  simp
theorem Blk.setCell_ne {w : World} {b : Nat} {cs : List Value} {T : TypeId} (h : Blk w b cs T) {a : Addr} (ha : b ≠ a.block) (v : Value) : Blk (w.setCell a v) b cs T := by
  unfold Blk; rw [Below.heap_setCell _ _ _ _ ha]; exact h
theorem Blk.setCell {w : World} {b : Nat} {cs : List Value} {T : TypeId} (h : Blk w b cs T) (o : Nat) (v : Value) : Blk (w.setCell ⟨b, o, none⟩ v) b (cs.set o v) T := by
  unfold Blk at *
  simp [World.setCell, Array.getElem?_modify, h]

/-- A pointer that '==' can look at: nil, or into a row of cells without a frozen range. -/
def PtrOk (w : World) (p : Option Addr) : Prop := ∀ a, p = some a → ∃ cs T, w.heap[a.block]? = some (.cells cs T (0, 0))

theorem run_equalIn_ptr {P : Program} (w : World) (d : Nat) {t e : TypeId} {j : TypeInfo} (hu : P.underlying t = some (.pointer e)) (hj : P.info? e = some j) (hsz : j.size ≠ 0) {p q : Option Addr} (hp : PtrOk w p) (hq : PtrOk w q) :
    (Op.equalIn (d + 1) t (.pointer p) (.pointer q)).run P w = .ok (decide (p = q)) w := by
  cases p with
  | none => cases q <;> simp [Op.equalIn, run_underlying hu]
  | some a => cases q with
    | none => simp [Op.equalIn, run_underlying hu]
    | some b =>
      by_cases hab : a = b
      · subst hab
        simp [Op.equalIn, run_underlying hu, sizeOf, typeInfo, hj, run_sameAddr_same]
      · obtain ⟨ca, ta, ha⟩ := hp a rfl
        obtain ⟨cb, tb, hb⟩ := hq b rfl
        simp [Op.equalIn, run_underlying hu, sizeOf, typeInfo, hj, hsz, run_sameAddr_other w hab ha hb, hab]
theorem run_equal_ptr {P : Program} (w : World) {t e : TypeId} {j : TypeInfo} (hu : P.underlying t = some (.pointer e)) (hj : P.info? e = some j) (hsz : j.size ≠ 0) {p q : Option Addr} (hp : PtrOk w p) (hq : PtrOk w q) :
    (Op.equal t (.pointer p) (.pointer q)).run P w = .ok (decide (p = q)) w := run_equalIn_ptr w 9999 hu hj hsz hp hq

theorem size37 : ∃ j, Yba.prog.info? 37 = some j ∧ j.size ≠ 0 := by
  refine ⟨_, rfl, ?_⟩
  decide
theorem size24 : ∃ j, Yba.prog.info? 24 = some j ∧ j.size ≠ 0 := by
  refine ⟨_, rfl, ?_⟩
  decide

theorem run_eql_ptr (w : World) {p q : Option Addr} (hp : PtrOk w p) (hq : PtrOk w q) :
    (binOp .eql 24 (.pointer p) (.pointer q)).run Yba.prog w = .ok (.bool (decide (p = q))) w := by
  obtain ⟨j, hj, hsz⟩ := size37
  simp only [binOp]
  simp [run_equal_ptr w Yba.underlying24 hj hsz hp hq]
theorem run_neq_ptr (w : World) {p q : Option Addr} (hp : PtrOk w p) (hq : PtrOk w q) :
    (binOp .neq 24 (.pointer p) (.pointer q)).run Yba.prog w = .ok (.bool (!decide (p = q))) w := by
  obtain ⟨j, hj, hsz⟩ := size37
  simp only [binOp]
  simp [run_equal_ptr w Yba.underlying24 hj hsz hp hq]
/-- '&got[0] == &list[0]': two addresses of cells. -/
theorem run_eql_pp (w : World) {p q : Option Addr} (hp : PtrOk w p) (hq : PtrOk w q) :
    (binOp .eql 40 (.pointer p) (.pointer q)).run Yba.prog w = .ok (.bool (decide (p = q))) w := by
  obtain ⟨j, hj, hsz⟩ := size24
  simp only [binOp]
  simp [run_equal_ptr w Yba.underlying40 hj hsz hp hq]
theorem run_neq_pp (w : World) {p q : Option Addr} (hp : PtrOk w p) (hq : PtrOk w q) :
    (binOp .neq 40 (.pointer p) (.pointer q)).run Yba.prog w = .ok (.bool (!decide (p = q))) w := by
  obtain ⟨j, hj, hsz⟩ := size24
  simp only [binOp]
  simp [run_equal_ptr w Yba.underlying40 hj hsz hp hq]
end Go.Proofs.Ybulkejek
