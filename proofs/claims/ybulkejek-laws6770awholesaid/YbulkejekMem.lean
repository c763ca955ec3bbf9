/- The call's own memory, told by blocks: no walk here. -/
import Derived.Test.YbulkejekWithout
import Derived.Deep.Draws
namespace Go.Proofs.Ybulkejek
open Go.RowKit

theorem hide {p : Prop} (h : p) : Hid p := h
theorem unhide {p : Prop} (h : Hid p) : p := h
def nils (n : Nat) : List Value := List.replicate n (Value.pointer none)

theorem run_mk (n c : Nat) (h : n ≤ c) (hc : c ≤ 1048576) (w : World) : (Instr.makeSlice 38 (.int .i64 n) (.int .i64 c)).run Yba.prog w = .ok (.slice (some ⟨w.heap.size, 0, none⟩) n c) (w.alloc (.cells (nils c).toArray 24)) := by
  obtain ⟨i0, hi0, hz0, hz1, hz2⟩ := info_parts info24
  rw [run_make w 38 24 i0 (.pointer none) Yba.underlying38 hi0 hz0 .i64 .i64 n c (by omega) (by omega) (by rw [hz2]; omega) (by omega)]
  simp only [Int.toNat_natCast]
  congr 3
  rw [hz1, Nat.mul_one]
  simp [madeCells, nils, Value.cells]
  apply Array.ext
  · simp
  · intro i h1 h2
    simp [Nat.mod_one]

/-- What pool[t] holds in the end. -/
def recAt (B t : Nat) : Option Addr := if t < 8 then some ⟨B + 1 + t, 0, none⟩ else none
/-- The pool with its first k records laid. -/
def pool (B k : Nat) : List (Option Addr) := (List.range 9).map fun t => if t < k then recAt B t else none

structure Pool (B k : Nat) (w wr : World) : Prop where
  bel : Below B w wr
  size : wr.heap.size = B + 1 + k
  pl : Blk wr B ((pool B k).map Value.pointer) 25
  recs : ∀ t, t < k → ∃ cs T, wr.heap[B + 1 + t]? = some (.cells cs T (0, 0))

theorem pool_start (w : World) : Pool w.heap.size 0 w (w.alloc (.cells #[.pointer none, .pointer none, .pointer none, .pointer none, .pointer none, .pointer none, .pointer none, .pointer none, .pointer none] 25)) :=
  ⟨(Below.refl _ _).alloc (Nat.le_refl _) _, by simp, Blk.new w ((pool w.heap.size 0).map Value.pointer) 25, fun t ht => absurd ht (by omega)⟩
theorem pool_cell {B k : Nat} {w wr : World} (h : Pool B k w wr) (hk : k < 8) : wr.cell? ⟨B, k, none⟩ = some (.pointer none) := by
  rw [h.pl.cell]
  simp [pool, show k < 9 by omega]
theorem pool_set (B k : Nat) (hk : k < 8) : (pool B k).set k (some ⟨B + 1 + k, 0, none⟩) = pool B (k + 1) := by
  apply List.ext_getElem?
  intro t
  rw [List.getElem?_set]
  by_cases h : k = t
  · subst h
    simp [pool, recAt, hk, show k < 9 by omega]
  · rw [if_neg h]
    by_cases h9 : t < 9
    · simp [pool, h9, show t < k + 1 ↔ t < k by omega]
    · simp [pool, h9]
theorem pool_step {B k : Nat} {w wr : World} (h : Pool B k w wr) (hk : k < 8) (cs : List Value) : Pool B (k + 1) w ((wr.setCell ⟨B, k, none⟩ (.pointer (some ⟨wr.heap.size, 0, none⟩))).alloc (.cells cs.toArray 37)) := by
  have hlt := h.pl.lt
  have hsz : (wr.setCell ⟨B, k, none⟩ (.pointer (some ⟨wr.heap.size, 0, none⟩))).heap.size = wr.heap.size := by simp [World.setCell]
  refine ⟨(h.bel.setCell (Nat.le_refl _) _).alloc (by omega) _, by simp [World.setCell, h.size]; omega, ?_, fun t ht => ?_⟩
  · rw [← pool_set B k hk, List.map_set, ← h.size]
    exact (h.pl.setCell _ _).alloc _
  · by_cases htk : t < k
    · rw [Below.heap_alloc _ _ _ (by rw [hsz, h.size]; omega), Below.heap_setCell _ _ _ _ (by simp; omega)]; exact h.recs t htk
    · have : t = k := by omega
      subst this
      have hb := Blk.new (wr.setCell ⟨B, t, none⟩ (.pointer (some ⟨wr.heap.size, 0, none⟩))) cs 37
      rw [hsz, h.size] at hb
      rw [h.size]
      exact ⟨_, _, hb⟩

/-- What list and want are filled with. -/
def src (B n : Nat) (zs : List Int) : List (Option Addr) := (zs.take n).map fun z => recAt B (z % 9).toNat
theorem src_length {B n : Nat} {zs : List Int} (hz : n ≤ zs.length) : (src B n zs).length = n := by simp [src]; omega
theorem src_get {B n : Nat} {zs : List Int} (hz : n ≤ zs.length) {k : Nat} (hk : k < n) : (src B n zs)[k]? = some (recAt B (zs.getD k 0 % 9).toNat) := by
  simp [src, hk, List.getD, show k < zs.length by omega]
/-- The first k places filled. -/
def filled (s : List (Option Addr)) (k : Nat) : List (Option Addr) := s.take k ++ List.replicate (s.length - k) none
theorem filled_set {s : List (Option Addr)} {k : Nat} {p : Option Addr} (hk : k < s.length) (hp : s[k]? = some p) : (filled s k).set k p = filled s (k + 1) := by
  apply List.ext_getElem?
  intro t
  rw [List.getElem?_set]
  have hl : (filled s k).length = s.length := by simp [filled]; omega
  by_cases h : k = t
  · subst h
    rw [if_pos rfl, hl, if_pos hk, filled, List.getElem?_append_left (by simp; omega), List.getElem?_take, if_pos (by omega), hp]
  · rw [if_neg h, filled, filled]
    by_cases h1 : t < k
    · rw [List.getElem?_append_left (by simp; omega), List.getElem?_append_left (by simp; omega), List.getElem?_take, List.getElem?_take, if_pos h1, if_pos (by omega)]
    · rw [List.getElem?_append_right (by simp; omega), List.getElem?_append_right (by simp; omega), List.getElem?_replicate, List.getElem?_replicate]
      simp only [List.length_take]
      by_cases h2 : t < s.length
      · rw [if_pos (by omega), if_pos (by omega)]
      · rw [if_neg (by omega), if_neg (by omega)]
theorem filled_zero (s : List (Option Addr)) : (filled s 0).map Value.pointer = nils s.length := by simp [filled, nils]
theorem filled_all (s : List (Option Addr)) : filled s s.length = s := by simp [filled]
theorem filled_of {s : List (Option Addr)} {n : Nat} (h : s.length = n) : filled s n = s := by subst h; exact filled_all s
theorem filled_get {s : List (Option Addr)} {k : Nat} (hk : k < s.length) : (filled s k)[k]? = some none := by
  rw [filled, List.getElem?_append_right (by simp; omega), List.getElem?_replicate, if_pos (by simp; omega)]

/-- The call's own memory: the pool at B, the records behind it, list at L, want at L + 1. -/
structure Mem (B L : Nat) (w wr : World) (ls ws : List (Option Addr)) : Prop where
  bel : Below B w wr
  hL : L = B + 9
  pl : Blk wr B ((pool B 8).map Value.pointer) 25
  recs : ∀ t, t < 8 → ∃ cs T, wr.heap[B + 1 + t]? = some (.cells cs T (0, 0))
  lst : Ptrs wr L ls
  wnt : Ptrs wr (L + 1) ws

theorem mem_start {B L : Nat} {w wr : World} (h : Pool B 8 w wr) (hL : wr.heap.size = L) (s : List (Option Addr)) :
    Mem B L w ((wr.alloc (.cells (nils s.length).toArray 24)).alloc (.cells (nils s.length).toArray 24)) (filled s 0) (filled s 0) := by
  subst hL
  have hlt := h.pl.lt
  refine ⟨(h.bel.alloc (by omega) _).alloc (by simp; omega) _, by rw [h.size], (h.pl.alloc _).alloc _, fun t ht => ?_, ?_, ?_⟩
  · obtain ⟨cs, T, hh⟩ := h.recs t ht
    have hsz := h.size
    rw [Below.heap_alloc _ _ _ (by simp; omega), Below.heap_alloc _ _ _ (by omega)]
    exact ⟨cs, T, hh⟩
  · unfold Ptrs; rw [filled_zero]
    exact (Blk.new wr _ 24).alloc _
  · unfold Ptrs; rw [filled_zero]
    have := Blk.new (wr.alloc (.cells (nils s.length).toArray 24)) (nils s.length) 24
    simpa using this

theorem Mem.rec_ok {B L : Nat} {w wr : World} {ls ws : List (Option Addr)} (h : Mem B L w wr ls ws) (t : Nat) : PtrOk wr (recAt B t) := by
  intro a ha
  unfold recAt at ha
  split at ha
  · rename_i ht
    obtain rfl := Option.some.inj ha
    exact h.recs t ht
  · cases ha
theorem Mem.pool_cell {B L : Nat} {w wr : World} {ls ws : List (Option Addr)} (h : Mem B L w wr ls ws) {t : Nat} (ht : t < 9) : wr.cell? ⟨B, t, none⟩ = some (.pointer (recAt B t)) := by
  rw [h.pl.cell]
  simp [pool, ht, recAt]
theorem Mem.set2 {B L : Nat} {w wr : World} {ls ws : List (Option Addr)} (h : Mem B L w wr ls ws) (k : Nat) (p q : Option Addr) :
    Mem B L w ((wr.setCell ⟨L, k, none⟩ (.pointer p)).setCell ⟨L + 1, k, none⟩ (.pointer q)) (ls.set k p) (ws.set k q) := by
  have hL := h.hL
  refine ⟨(h.bel.setCell (by simp; omega) _).setCell (by simp; omega) _, hL, (h.pl.setCell_ne (by simp; omega) _).setCell_ne (by simp; omega) _, fun t ht => ?_, ?_, ?_⟩
  · rw [Below.heap_setCell _ _ _ _ (by simp; omega), Below.heap_setCell _ _ _ _ (by simp; omega)]
    exact h.recs t ht
  · have := h.lst
    unfold Ptrs at *; rw [List.map_set]
    exact (this.setCell k _).setCell_ne (by simp) _
  · have := h.wnt
    unfold Ptrs at *; rw [List.map_set]
    exact (this.setCell_ne (by simp) _).setCell k _


theorem first_exists (S : List (Option Addr)) (r : Option Addr) : ∀ m : Nat, S.getD m none = r → ∃ J, J ≤ m ∧ S.getD J none = r ∧ ∀ k, k < J → S.getD k none ≠ r := by
  intro m
  induction m using Nat.strongRecOn with
  | _ m ih =>
    intro hm
    by_cases h : ∃ k, k < m ∧ S.getD k none = r
    · obtain ⟨k, hk, hkr⟩ := h
      obtain ⟨J, h1, h2, h3⟩ := ih k hk hkr
      exact ⟨J, by omega, h2, h3⟩
    · exact ⟨m, Nat.le_refl _, hm, fun k hk he => h ⟨k, hk, he⟩⟩
theorem src_rec {B n : Nat} {zs : List Int} : ∀ p ∈ src B n zs, ∃ t, p = recAt B t := by
  intro p hp
  obtain ⟨z, _, rfl⟩ := List.mem_map.1 hp
  exact ⟨_, rfl⟩
theorem gone_length {S : List (Option Addr)} {J : Nat} (h : J < S.length) : (gone S J).length = S.length := by
  simp [gone, List.length_eraseIdx, h]; omega
/-- How many elements exp holds behind k rounds. -/
def cnt (J k : Nat) : Nat := if J < k then k - 1 else k
theorem gone_get {S : List (Option Addr)} {J k : Nat} (hJ : J < S.length) (hk : k < S.length) (hne : k ≠ J) : (gone S J)[cnt J k]? = some (S.getD k none) := by
  have hl : (S.eraseIdx J).length = S.length - 1 := by rw [List.length_eraseIdx, if_pos hJ]
  unfold cnt gone
  by_cases h : J < k
  · rw [if_pos h, List.getElem?_append_left (by omega), List.getElem?_eraseIdx, if_neg (by omega), show k - 1 + 1 = k by omega]
    simp [List.getD, hk]
  · rw [if_neg h, List.getElem?_append_left (by omega), List.getElem?_eraseIdx, if_pos (by omega)]
    simp [List.getD, hk]
theorem filled_gone {S : List (Option Addr)} {J : Nat} (hJ : J < S.length) : filled (gone S J) (S.length - 1) = gone S J := by
  have hl : (S.eraseIdx J).length = S.length - 1 := by rw [List.length_eraseIdx, if_pos hJ]
  unfold filled
  rw [gone_length hJ, gone, List.take_append_of_le_length (by omega), List.take_of_length_le (by omega)]
  rw [show S.length - (S.length - 1) = 1 by omega]
  rfl
/-- What the list holds behind the call, and where the result begins in it. -/
def Shape (S : List (Option Addr)) (J n g : Nat) (ls : List (Option Addr)) : Prop :=
  ls.length = n ∧ (∀ i, i < n - 1 → ls.getD (g + i) none = (gone S J).getD i none) ∧ (J = 0 → ls = S.set 0 none ∧ (1 < n → g = 1)) ∧ (0 < J → ls = gone S J ∧ g = 0)
theorem Shape.lt {S : List (Option Addr)} {J n g k : Nat} {ls : List (Option Addr)} (h : Shape S J n g ls) (hk : k < n - 1) : g + k < ls.length := by
  rw [h.1]
  rcases Nat.eq_zero_or_pos J with h0 | h0
  · have := (h.2.2.1 h0).2 (by omega); omega
  · have := (h.2.2.2 h0).2; omega
theorem without_any (b n J : Nat) (S : List (Option Addr)) (r : Option Addr) (w : World) (hB : Ptrs w b S) (hn : S.length = n) (hm : n ≤ 1048576)
    (hok : ∀ p ∈ S, PtrOk w p) (hj : J < n) (hr : S.getD J none = r) (hfirst : ∀ k, k < J → S.getD k none ≠ r) :
    Calls Yba.prog 4 #[.slice (some ⟨b, 0, none⟩) n n, .pointer r] w fun e w' => ∃ g c ls, e = .returned (.slice (some ⟨b, g, none⟩) (n - 1) c) ∧ Shape S J n g ls ∧ Ptrs w' b ls ∧ But b w w' := by
  by_cases h : J = 0
  · subst h
    refine (without_first b n S r w hB hn hm hj hok hr).mono ?_
    rintro e w' ⟨rfl, hp, hb⟩
    refine ⟨if n = 1 then 0 else 1, _, _, by split <;> rfl, ⟨by simpa using hn, fun i hi => ?_, fun _ => ⟨rfl, fun h1 => by rw [if_neg (by omega)]⟩, fun h => absurd h (by omega)⟩, hp, hb⟩
    rw [if_neg (by omega)]
    have h1 := gone_get (S := S) (J := 0) (k := i + 1) (by omega) (by omega) (by omega)
    rw [show cnt 0 (i + 1) = i by simp [cnt]] at h1
    simp only [List.getD, h1]
    rw [List.getElem?_set_ne (by omega), show 1 + i = i + 1 by omega]
    simp
  · refine (without_later b n J S r w hB hn hm (by omega) hok hj hr hfirst).mono ?_
    rintro e w' ⟨rfl, hp, hb⟩
    exact ⟨0, _, _, rfl, ⟨by rw [gone_length (by omega), hn], fun i hi => by rw [Nat.zero_add], fun h' => absurd h' h, fun _ => ⟨rfl, rfl⟩⟩, hp, hb⟩
theorem Mem.but {B L : Nat} {w wr w' : World} {ls ws ls' : List (Option Addr)} (h : Mem B L w wr ls ws) (hb : But L wr w') (hp : Ptrs w' L ls') : Mem B L w w' ls' ws := by
  have hL := h.hL
  refine ⟨h.bel.trans ⟨hb.os, hb.tape, hb.output, by rw [hb.size]; exact Nat.le_refl _, fun k hk => hb.block k (by omega)⟩, hL, ?_, fun t ht => ?_, hp, ?_⟩
  · have := h.pl
    unfold Blk at *
    rw [hb.block _ (by omega)]; exact this
  · rw [hb.block _ (by omega)]; exact h.recs t ht
  · have := h.wnt
    unfold Ptrs Blk at *
    rw [hb.block _ (by omega)]; exact this
theorem Mem.alloc {B L : Nat} {w wr : World} {ls ws : List (Option Addr)} (h : Mem B L w wr ls ws) (o : Obj) : Mem B L w (wr.alloc o) ls ws := by
  have hp := h.pl.lt
  refine ⟨h.bel.alloc (by omega) _, h.hL, h.pl.alloc _, fun t ht => ?_, Blk.alloc h.lst _, Blk.alloc h.wnt _⟩
  have hl := Blk.lt h.lst
  have hL := h.hL
  rw [Below.heap_alloc _ _ _ (by omega)]
  exact h.recs t ht
theorem Mem.drewN {B L : Nat} {w wr : World} {ls ws : List (Option Addr)} (h : Mem B L w wr ls ws) (n : Nat) : Mem B L w (wr.drewN n) ls ws :=
  ⟨⟨h.bel.os, h.bel.tape, h.bel.output, h.bel.size, h.bel.block⟩, h.hL, h.pl, h.recs, h.lst, h.wnt⟩
theorem Mem.setCell {B L : Nat} {w wr : World} {ls ws : List (Option Addr)} (h : Mem B L w wr ls ws) {a : Addr} (ha : L + 1 < a.block) (v : Value) : Mem B L w (wr.setCell a v) ls ws := by
  have hL := h.hL
  refine ⟨h.bel.setCell (by omega) _, hL, h.pl.setCell_ne (by omega) _, fun t ht => ?_, Blk.setCell_ne h.lst (by omega) _, Blk.setCell_ne h.wnt (by omega) _⟩
  rw [Below.heap_setCell _ _ _ _ (by omega)]
  exact h.recs t ht
theorem Mem.size {B L : Nat} {w wr : World} {ls ws : List (Option Addr)} (h : Mem B L w wr ls ws) : L + 1 < wr.heap.size := Blk.lt h.wnt
/-- What exp holds behind k rounds; what one append does. -/
def Exp (B L E : Nat) (w wr : World) (ls S : List (Option Addr)) (J k : Nat) : Prop := Mem B L w wr ls S ∧ L + 1 < E ∧ Ptrs wr E (filled (gone S J) (cnt J k))
theorem Exp.start {B L E : Nat} {w wr : World} {ls S : List (Option Addr)} (h : Mem B L w wr ls S) (hE : wr.heap.size = E) {J : Nat} (hJ : J < S.length) : Exp B L E w (wr.alloc (.cells (nils S.length).toArray 24)) ls S J 0 := by
  subst hE
  refine ⟨h.alloc _, h.size, ?_⟩
  unfold Ptrs
  rw [show cnt J 0 = 0 by simp [cnt], filled_zero, gone_length hJ]
  exact Blk.new _ _ _
theorem Exp.skip {B L E : Nat} {w wr : World} {ls S : List (Option Addr)} {J : Nat} (h : Exp B L E w wr ls S J J) : Exp B L E w wr ls S J (J + 1) := by
  unfold Exp at *
  rw [show cnt J (J + 1) = cnt J J by simp [cnt]]
  exact h
theorem cnt_le (J k : Nat) : cnt J k ≤ k := by unfold cnt; split <;> omega
theorem cnt_succ {J k : Nat} (h : k ≠ J) : cnt J (k + 1) = cnt J k + 1 := by unfold cnt; split <;> split <;> omega
theorem Exp.add {B L E : Nat} {w wr : World} {ls S : List (Option Addr)} {J k : Nat} (h : Exp B L E w wr ls S J k) (hJ : J < S.length) (hk : k < S.length) (hne : k ≠ J) (o : Obj) :
    Exp B L E w ((wr.alloc o).setCells E (0 + cnt J k * 1) [.pointer (S.getD k none)]) ls S J (k + 1) := by
  obtain ⟨hM, hE, hp⟩ := h
  rw [Nat.zero_add, Nat.mul_one]
  refine ⟨(hM.alloc o).setCell (by simpa using hE) _, hE, ?_⟩
  have hg := gone_get hJ hk hne
  rw [cnt_succ hne, ← filled_set (List.getElem?_eq_some_iff.1 hg).1 hg]
  unfold Ptrs at *
  rw [List.map_set]
  exact (hp.alloc o).setCell _ _
theorem Exp.done {B L E : Nat} {w wr : World} {ls S : List (Option Addr)} {J : Nat} (h : Exp B L E w wr ls S J S.length) (hJ : J < S.length) : Mem B L w wr ls S ∧ L + 1 < E ∧ Ptrs wr E (gone S J) := by
  obtain ⟨hM, hE, hp⟩ := h
  rw [show cnt J S.length = S.length - 1 by simp [cnt, hJ], filled_gone hJ] at hp
  exact ⟨hM, hE, hp⟩

/-- append where there is room, the world written out. -/
theorem wpList_append_room {P : Program} (w : World) {ops : Array Oper} {rest : List Oper} {o : Oper} {a : Act} {Q : Exit → Act → World → Prop}
    (hg : o.guard = none) (s x : Operand) (t : TypeId) (hop : o.op = Op.call { callee := Callee.builtin Builtin.append, args := #[s, x], argTypes := #[t, t] })
    (e : TypeId) (i : TypeInfo) (size : Nat) (h1 : P.underlying t = some (.slice e)) (h2 : P.info? e = some i) (h4 : i.size = size)
    (b off n cap : Nat) (hs : a.eval s = .slice (some ⟨b, off, none⟩) n cap) (ad : Addr) (m c : Nat) (news : List Value) (hx : a.eval x = .slice (some ad) m c) (hn : news.length = m * size)
    (hc : ∀ j u, news[j]? = some u → w.cell? (ad.add j) = some u) (h1c : ∀ u ∈ news, u.oneCell' = true) (b1 : n + m ≤ cap)
    (hspare : ∀ j, j < news.length → (w.cell? ⟨b, off + n * size + j, none⟩).isSome = true ∧ w.frozen? ⟨b, off + n * size + j, none⟩ = false)
    (hK : wpList P ops Q rest (a.put o.dst (.slice (some ⟨b, off, none⟩) (n + m) cap)) (w.setCells b (off + n * size) news)) :
    wpList P ops Q (o :: rest) a w := by
  refine wpList_plain hg fun K hK' => ?_
  subst h4
  have hrun := run_append_room_cells (P := P) w t o.type e i h1 h2 b off n cap ad m c news hn hc h1c b1 (fun j hj => (hspare j hj).1) (fun j hj => (hspare j hj).2)
  unfold Oper.wp
  simp [execOp, hop, resolve, invoke, builtin, hs, hx, hrun, Result.andThen]
  exact hK' _ _ hK

theorem gone_ok {B L : Nat} {w wr : World} {ls ws S : List (Option Addr)} (h : Mem B L w wr ls ws) (hS : ∀ p ∈ S, ∃ t, p = recAt B t) (J k : Nat) : PtrOk wr ((gone S J).getD k none) := by
  rcases Nat.lt_or_ge k (gone S J).length with hk | hk
  · have hm : (gone S J).getD k none ∈ gone S J := by simp [List.getD, hk]
    rcases List.mem_append.1 hm with hm | hm
    · obtain ⟨t, ht⟩ := hS _ (List.mem_of_mem_eraseIdx hm)
      rw [ht]; exact h.rec_ok t
    · simp only [List.mem_singleton] at hm
      rw [hm]; intro a ha; cases ha
  · rw [show (gone S J).getD k none = none by simp [List.getD, List.getElem?_eq_none hk]]; intro a ha; cases ha
theorem Ptrs.ok {w : World} {b : Nat} {ps : List (Option Addr)} (h : Ptrs w b ps) (o : Nat) : PtrOk w (some ⟨b, o, none⟩) := by
  intro a ha
  obtain rfl := Option.some.inj ha
  exact ⟨_, _, h⟩
theorem getD_mem {S : List (Option Addr)} {k : Nat} (hk : k < S.length) : S.getD k none ∈ S := by simp [List.getD, hk]
theorem Ptrs.cell {w : World} {b : Nat} {ps : List (Option Addr)} (h : Ptrs w b ps) {k : Nat} (hk : k < ps.length) : w.cell? ⟨b, k, none⟩ = some (.pointer (ps.getD k none)) := ptrs_get h hk
end Go.Proofs.Ybulkejek
