/- Small laws for the walks of this seat: blocks of cells, append where there is room, copy into a row of the call's own. -/
import Derived.Test.YbulkejacFmtRows
import Derived.WalkKit
import Derived.LaidEql
import Derived.Deep.Draws
import Derived.Laws.IdiomCopy
namespace Go.Proofs.YbulkejacFmt
open Go.RowKit

theorem hide {p : Prop} (h : p) : Hid p := h
theorem unhide {p : Prop} (h : Hid p) : p := h

/-- Block b of the world is a row of cells, none of them frozen. -/
def Blk (w : World) (b : Nat) (cs : List Value) (T : TypeId) : Prop := w.heap[b]? = some (.cells cs.toArray T (0, 0))

theorem Blk.cell {w : World} {b : Nat} {cs : List Value} {T : TypeId} (h : Blk w b cs T) (o : Nat) : w.cell? ⟨b, o, none⟩ = cs[o]? := by
  unfold Blk at h; simp [World.cell?, h]
theorem Blk.frozen {w : World} {b : Nat} {cs : List Value} {T : TypeId} (h : Blk w b cs T) (o : Nat) : w.frozen? ⟨b, o, none⟩ = false := by
  unfold Blk at h; simp [World.frozen?, h]
theorem Blk.lt {w : World} {b : Nat} {cs : List Value} {T : TypeId} (h : Blk w b cs T) : b < w.heap.size := by
  unfold Blk at h; exact (Array.getElem?_eq_some_iff.1 h).1
theorem Blk.alloc {w : World} {b : Nat} {cs : List Value} {T : TypeId} (h : Blk w b cs T) (o : Obj) : Blk (w.alloc o) b cs T := by
  unfold Blk; rw [Below.heap_alloc _ _ _ h.lt]; exact h
theorem Blk.drew {w : World} {b : Nat} {cs : List Value} {T : TypeId} (h : Blk w b cs T) : Blk w.drew b cs T := h
theorem Blk.drewN {w : World} {b : Nat} {cs : List Value} {T : TypeId} (h : Blk w b cs T) (n : Nat) : Blk (w.drewN n) b cs T := h
theorem Blk.new (w : World) (cs : List Value) (T : TypeId) : Blk (w.alloc (.cells cs.toArray T)) w.heap.size cs T := by
  show (w.heap.push _)[w.heap.size]? = _
  simp
theorem Blk.setCell_ne {w : World} {b : Nat} {cs : List Value} {T : TypeId} (h : Blk w b cs T) {a : Addr} (ha : b ≠ a.block) (v : Value) : Blk (w.setCell a v) b cs T := by
  unfold Blk; rw [Below.heap_setCell _ _ _ _ ha]; exact h
theorem Blk.setCell {w : World} {b : Nat} {cs : List Value} {T : TypeId} (h : Blk w b cs T) (o : Nat) (v : Value) : Blk (w.setCell ⟨b, o, none⟩ v) b (cs.set o v) T := by
  unfold Blk at *
  simp [World.setCell, Array.getElem?_modify, h]
theorem Blk.below {B : Nat} {w w' : World} {b : Nat} {cs : List Value} {T : TypeId} (h : Blk w b cs T) (hb : Below B w w') (hB : b < B) : Blk w' b cs T := by
  unfold Blk; rw [hb.block b hB]; exact h

/-- All is as it was but for block b, which is still there. -/
structure But (b : Nat) (w w' : World) : Prop where
  os : w'.os = w.os
  tape : w'.tape = w.tape
  output : w'.output = w.output
  size : w'.heap.size = w.heap.size
  block : ∀ k, k ≠ b → w'.heap[k]? = w.heap[k]?

theorem But.refl (b : Nat) (w : World) : But b w w := ⟨rfl, rfl, rfl, rfl, fun _ _ => rfl⟩
theorem But.drew {b : Nat} {a w : World} (h : But b a w) : But b a w.drew := ⟨h.os, h.tape, h.output, h.size, h.block⟩
theorem But.setCell {b : Nat} {a w : World} (h : But b a w) (o : Nat) (v : Value) : But b a (w.setCell ⟨b, o, none⟩ v) :=
  ⟨h.os, h.tape, h.output, by rw [← h.size]; simp [World.setCell], fun k hk => (Below.heap_setCell _ _ _ _ hk).trans (h.block k hk)⟩
theorem But.setCells {b : Nat} {a : World} : ∀ (vs : List Value) (o : Nat) {w : World}, But b a w → But b a (w.setCells b o vs)
  | [], _, _, h => h
  | v :: vs, o, _, h => But.setCells vs (o + 1) (h.setCell o v)
theorem But.below {B b : Nat} {w w' : World} (h : But b w w') (hB : B ≤ b) : Below B w w' :=
  ⟨h.os, h.tape, h.output, by rw [h.size]; exact Nat.le_refl _, fun k hk => h.block k (by omega)⟩
theorem Blk.but {b c : Nat} {w w' : World} {cs : List Value} {T : TypeId} (h : Blk w b cs T) (hb : But c w w') (hne : b ≠ c) : Blk w' b cs T := by
  unfold Blk; rw [hb.block b hne]; exact h
theorem below_drewN {B : Nat} {a w : World} (h : Below B a w) (n : Nat) : Below B a (w.drewN n) := ⟨h.os, h.tape, h.output, h.size, h.block⟩

/-- The list with what stands from o on written over by vs. -/
def over (cs : List Value) : Nat → List Value → List Value
  | _, [] => cs
  | o, v :: vs => over (cs.set o v) (o + 1) vs
theorem over_length : ∀ (vs cs : List Value) (o : Nat), (over cs o vs).length = cs.length
  | [], _, _ => rfl
  | v :: vs, cs, o => by simp [over, over_length vs]
theorem over_get : ∀ (vs cs : List Value) (o k : Nat), o + vs.length ≤ cs.length → (over cs o vs)[k]? = if o ≤ k ∧ k < o + vs.length then vs[k - o]? else cs[k]?
  | [], cs, o, k, _ => by simp [over]; intro h1 h2; omega
  | v :: vs, cs, o, k, h => by
    simp only [List.length_cons] at h
    rw [over, over_get vs (cs.set o v) (o + 1) k (by simp; omega)]
    simp only [List.length_cons]
    by_cases h1 : o = k
    · subst h1
      rw [if_neg (by omega), if_pos (by omega), Nat.sub_self, List.getElem?_set_self (by omega)]
      rfl
    · by_cases h2 : o + 1 ≤ k ∧ k < o + 1 + vs.length
      · rw [if_pos h2, if_pos (by omega)]
        obtain ⟨m, rfl⟩ : ∃ m, k = o + 1 + m := ⟨k - (o + 1), by omega⟩
        rw [show o + 1 + m - (o + 1) = m by omega, show o + 1 + m - o = m + 1 by omega]
        simp
      · rw [if_neg h2, if_neg (by omega)]
        rw [List.getElem?_set_ne h1]
theorem over_all {cs vs : List Value} (h : cs.length = vs.length) : over cs 0 vs = vs := by
  apply List.ext_getElem?
  intro k
  rw [over_get _ _ _ _ (by omega)]
  by_cases hk : k < vs.length
  · rw [if_pos (by omega)]; rfl
  · rw [if_neg (by omega), List.getElem?_eq_none (by omega), List.getElem?_eq_none (by omega)]
theorem Blk.setCells {b : Nat} {T : TypeId} : ∀ (vs : List Value) (o : Nat) {cs : List Value} {w : World}, Blk w b cs T → Blk (w.setCells b o vs) b (over cs o vs) T
  | [], _, _, _, h => h
  | v :: vs, o, _, _, h => Blk.setCells vs (o + 1) (h.setCell o v)

/-- append where there is room, the world written out. -/
theorem wpList_append_room {P : Program} (w : World) {ops : Array Oper} {rest : List Oper} {o : Oper} {a : Act} {Q : Exit → Act → World → Prop}
    (hg : o.guard = none) (s x : Operand) (t : TypeId) (hop : o.op = Op.call { callee := Callee.builtin Builtin.append, args := #[s, x], argTypes := #[t, t] })
    (e : TypeId) (i : TypeInfo) (size : Nat) (h1 : P.underlying t = some (.slice e)) (h2 : P.info? e = some i) (h4 : i.size = size)
    (b off n cap : Nat) (hs : a.eval s = .slice (some ⟨b, off, none⟩) n cap) (ad : Addr) (m c : Nat) (news : List Value) (hx : a.eval x = .slice (some ad) m c) (hn : news.length = m * size)
    (hc : ∀ j u, news[j]? = some u → w.cell? (ad.add j) = some u) (h1c : ∀ u ∈ news, u.oneCell' = true) (b1 : n + m ≤ cap)
    (hspare : ∀ j, j < news.length → (w.cell? ⟨b, off + n * size + j, none⟩).isSome = true ∧ w.frozen? ⟨b, off + n * size + j, none⟩ = false)
    (hK : wpList P ops Q rest (a.put o.dst (.slice (some ⟨b, off, none⟩) (n + m) cap)) (w.setCells b (off + n * size) news)) :
    wpList P ops Q (o :: rest) a w := by
  refine wpList_plain hg fun K hK' => ?_
  subst h4
  have hrun := run_append_room_cells (P := P) w t o.type e i h1 h2 b off n cap ad m c news hn hc h1c b1 (fun j hj => (hspare j hj).1) (fun j hj => (hspare j hj).2)
  unfold Oper.wp
  simp [execOp, hop, resolve, invoke, builtin, hs, hx, hrun, Result.andThen]
  exact hK' _ _ hK

theorem run_copy_whole {P : Program} (w : World) (dT sT ty elem : TypeId) (i : TypeInfo) (size : Nat) (hu : P.underlying dT = some (.slice elem)) (hi : P.info? elem = some i) (hsz : i.size = size)
    (g n dCap : Nat) (sa : Option Addr) (sCap : Nat) (cur cs : List Value) (T : TypeId) (hg : Blk w g cur T) (hl : cur.length = cs.length) (hn : cs.length = n * size)
    (hsrc : 0 < cs.length → ∃ ad, sa = some ad ∧ ∀ j v, cs[j]? = some v → w.cell? (ad.add j) = some v) (h1 : ∀ v ∈ cs, v.oneCell' = true) :
    (Builtin.copy_ #[dT, sT] ty #[.slice (some ⟨g, 0, none⟩) n dCap, .slice sa n sCap]).run P w = .ok (goInt n) (w.setCells g 0 cs) := by
  subst hsz
  have hst := run_storeCells_cells (P := P) g 0 cs 0 w (fun j hj => by rw [hg.cell, List.getElem?_eq_getElem (by omega)]; rfl) (fun j _ => hg.frozen _) h1
  simp only [Nat.add_zero] at hst
  cases sa with
  | none =>
    have h0 : cs.length = 0 := by
      rcases Nat.eq_zero_or_pos cs.length with h | h
      · exact h
      · obtain ⟨ad, hh, _⟩ := hsrc h; cases hh
    obtain rfl := List.eq_nil_of_length_eq_zero h0
    simp [Builtin.copy_, run_underlying hu, Builtin.lenOf, Builtin.firstCells, sizeOf, typeInfo, hi, storeCells, World.setCells]
  | some a =>
    have hf := run_firstCells_some (P := P) w i.size n a n sCap cs hn (fun j v hj => by
      obtain ⟨ad, hh, h⟩ := hsrc (by have := (List.getElem?_eq_some_iff.1 hj).1; omega)
      obtain rfl := Option.some.inj hh
      exact h j v hj)
    simp [Builtin.copy_, run_underlying hu, Builtin.lenOf, sizeOf, typeInfo, hi, hf, hst]

/-- copy(dst, src) of all of src's elements into a row of the call's own that is just as long: the row then holds what src held; nothing else turns. -/
theorem wpList_copy_whole {P : Program} {w : World} {ops : Array Oper} {rest : List Oper} {o : Oper} {a : Act} {Q : Exit → Act → World → Prop} (hgd : o.guard = none) (d s : Operand) (dT sT : TypeId)
    (ho : o.op = .call { callee := .builtin .copy, args := #[d, s], argTypes := #[dT, sT] }) (elem : TypeId) (i : TypeInfo) (size : Nat) (hu : P.underlying dT = some (.slice elem)) (hi : P.info? elem = some i) (hsz : i.size = size)
    (g n dCap : Nat) (sa : Option Addr) (sCap : Nat) (hd : a.eval d = .slice (some ⟨g, 0, none⟩) n dCap) (hs : a.eval s = .slice sa n sCap)
    (cur cs : List Value) (T : TypeId) (hg : Blk w g cur T) (hl : cur.length = cs.length) (hn : cs.length = n * size)
    (hsrc : 0 < cs.length → ∃ ad, sa = some ad ∧ ∀ j v, cs[j]? = some v → w.cell? (ad.add j) = some v) (h1 : ∀ v ∈ cs, v.oneCell' = true)
    (h : ∀ w1, Blk w1 g cs T → But g w w1 → wpList P ops Q rest (a.put o.dst (goInt n)) w1) : wpList P ops Q (o :: rest) a w := by
  refine wpList_plain hgd fun K hK => ?_
  have hrun := run_copy_whole (P := P) w dT sT o.type elem i size hu hi hsz g n dCap sa sCap cur cs T hg hl hn hsrc h1
  unfold Oper.wp
  simp [execOp, ho, resolve, invoke, builtin, hd, hs, hrun, Result.andThen]
  refine hK _ _ (h _ ?_ (But.setCells _ _ (But.refl g w)))
  have := Blk.setCells cs 0 hg
  rwa [over_all hl] at this

/-- The same, the world behind it under a name: an equation on the run, to be laid ahead of the walk. -/
theorem run_copy_ex {P : Program} (w : World) (dT sT ty elem : TypeId) (i : TypeInfo) (size : Nat) (hu : P.underlying dT = some (.slice elem)) (hi : P.info? elem = some i) (hsz : i.size = size)
    (g n dCap : Nat) (sa : Option Addr) (sCap : Nat) (cur cs : List Value) (T : TypeId) (hg : Blk w g cur T) (hl : cur.length = cs.length) (hn : cs.length = n * size)
    (hsrc : 0 < cs.length → ∃ ad, sa = some ad ∧ ∀ j v, cs[j]? = some v → w.cell? (ad.add j) = some v) (h1 : ∀ v ∈ cs, v.oneCell' = true) :
    ∃ w1, (Builtin.copy_ #[dT, sT] ty #[.slice (some ⟨g, 0, none⟩) n dCap, .slice sa n sCap]).run P w = .ok (.int .i64 n) w1 ∧ Blk w1 g cs T ∧ But g w w1 := by
  refine ⟨_, run_copy_whole (P := P) w dT sT ty elem i size hu hi hsz g n dCap sa sCap cur cs T hg hl hn hsrc h1, ?_, But.setCells _ _ (But.refl g w)⟩
  have := Blk.setCells cs 0 hg
  rwa [over_all hl] at this

end Go.Proofs.YbulkejacFmt
