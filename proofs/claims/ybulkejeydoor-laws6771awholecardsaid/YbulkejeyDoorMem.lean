/- The law's own memory, told by blocks: no walk here. -/
import Derived.Test.YbulkejeyDoorEq
namespace Go.Proofs.YbulkejeyDoor
open Go.RowKit
set_option linter.unusedVariables false

theorem info26 : (Ybad.prog.info? 26).map (fun i => (i.zero, i.size, i.bytes)) = some (some (.int .u32 0), 1, 4) := by kernel_rfl
theorem info35 : (Ybad.prog.info? 35).map (fun i => (i.zero, i.size, i.bytes)) = some (some (.agg noAddr), 3, 24) := by kernel_rfl

/-- The first k places filled with s's, z behind. -/
def fill (s : List Value) (z : Value) (k : Nat) : List Value := s.take k ++ List.replicate (s.length - k) z
theorem fill_length (s : List Value) (z : Value) {k : Nat} (hk : k ≤ s.length) : (fill s z k).length = s.length := by simp [fill]; omega
theorem fill_set {s : List Value} {z p : Value} {k : Nat} (hk : k < s.length) (hp : s[k]? = some p) : (fill s z k).set k p = fill s z (k + 1) := by
  apply List.ext_getElem?
  intro t
  rw [List.getElem?_set]
  have hl := fill_length s z (k := k) (by omega)
  by_cases h : k = t
  · subst h
    rw [if_pos rfl, hl, if_pos hk, fill, List.getElem?_append_left (by simp; omega), List.getElem?_take, if_pos (by omega), hp]
  · rw [if_neg h, fill, fill]
    by_cases h1 : t < k
    · rw [List.getElem?_append_left (by simp; omega), List.getElem?_append_left (by simp; omega), List.getElem?_take, List.getElem?_take, if_pos h1, if_pos (by omega)]
    · rw [List.getElem?_append_right (by simp; omega), List.getElem?_append_right (by simp; omega), List.getElem?_replicate, List.getElem?_replicate]
      simp only [List.length_take]
      by_cases h2 : t < s.length
      · rw [if_pos (by omega), if_pos (by omega)]
      · rw [if_neg (by omega), if_neg (by omega)]
theorem fill_zero (s : List Value) (z : Value) : fill s z 0 = List.replicate s.length z := by simp [fill]
theorem fill_of {s : List Value} {z : Value} {n : Nat} (h : s.length = n) : fill s z n = s := by subst h; simp [fill]
theorem fill_get {s : List Value} {z : Value} {k : Nat} (hk : k < s.length) : (fill s z k)[k]? = some z := by
  rw [fill, List.getElem?_append_right (by simp; omega), List.getElem?_replicate, if_pos (by simp; omega)]

def zero32 (n : Nat) : List Value := List.replicate n (.int .u32 0)
theorem run_mk23 (c : Nat) (hc : c ≤ 1048576) (w : World) : (Instr.makeSlice 23 (.int .i64 c) (.int .i64 c)).run Ybad.prog w = .ok (.slice (some ⟨w.heap.size, 0, none⟩) c c) (w.alloc (.cells (zero32 c).toArray 26)) := by
  obtain ⟨i0, hi0, hz0, hz1, hz2⟩ := info_parts info26
  have e : madeCells (Value.int .u32 0).cells (c * 1) = (zero32 c).toArray := by
    rw [Nat.mul_one]
    simp [madeCells, zero32, Value.cells]
    apply Array.ext
    · simp
    · intro i h1 h2
      simp [Nat.mod_one]
  rw [run_make w 23 26 i0 (.int .u32 0) Ybad.underlying23 hi0 hz0 .i64 .i64 c c (by omega) (by omega) (by rw [hz2]; omega) (by omega)]
  simp only [Int.toNat_natCast, hz1, e]

/-- Cell j of address i, where the first k are laid. -/
def adrCell (A : Nat → Nat → Int) (z : Option Addr) (k i j : Nat) : Value :=
  if i < k then (if j = 0 then .int .u64 0 else if j = 1 then .int .u64 (lo4 (A i 0) (A i 1) (A i 2) (A i 3)) else .pointer z)
  else (if j = 0 then .int .u64 0 else if j = 1 then .int .u64 0 else .pointer none)
/-- The addresses' row with its first k laid. -/
def pd (A : Nat → Nat → Int) (z : Option Addr) (n k : Nat) : List Value := (List.range (n * 3)).map fun t => adrCell A z k (t / 3) (t % 3)
theorem pd_get {A : Nat → Nat → Int} {z : Option Addr} {n k i j : Nat} (hi : i < n) (hj : j < 3) : (pd A z n k)[i * 3 + j]? = some (adrCell A z k i j) := by
  unfold pd
  rw [List.getElem?_map, List.getElem?_range (by omega)]
  simp only [Option.map_some]
  rw [show (i * 3 + j) / 3 = i by omega, show (i * 3 + j) % 3 = j by omega]
theorem pd_set {A : Nat → Nat → Int} {z : Option Addr} {n k : Nat} (hk : k < n) :
    (((pd A z n k).set (k * 3) (.int .u64 0)).set (k * 3 + 1) (.int .u64 (lo4 (A k 0) (A k 1) (A k 2) (A k 3)))).set (k * 3 + 2) (.pointer z) = pd A z n (k + 1) := by
  apply List.ext_getElem?
  intro t
  have hl : (pd A z n k).length = n * 3 := by simp [pd]
  rw [List.getElem?_set, List.getElem?_set, List.getElem?_set]
  simp only [List.length_set, hl]
  by_cases h : t < n * 3
  · have hr : (pd A z n (k + 1))[t]? = some (adrCell A z (k + 1) (t / 3) (t % 3)) := by
      unfold pd; rw [List.getElem?_map, List.getElem?_range h]; rfl
    have hr' : (pd A z n k)[t]? = some (adrCell A z k (t / 3) (t % 3)) := by
      unfold pd; rw [List.getElem?_map, List.getElem?_range h]; rfl
    rw [hr, hr']
    by_cases h2 : k * 3 + 2 = t
    · subst h2
      rw [if_pos rfl, if_pos h, show (k * 3 + 2) / 3 = k by omega, show (k * 3 + 2) % 3 = 2 by omega]
      simp [adrCell]
    · rw [if_neg h2]
      by_cases h1 : k * 3 + 1 = t
      · subst h1
        rw [if_pos rfl, if_pos h, show (k * 3 + 1) / 3 = k by omega, show (k * 3 + 1) % 3 = 1 by omega]
        simp [adrCell]
      · rw [if_neg h1]
        by_cases h0 : k * 3 = t
        · subst h0
          rw [if_pos rfl, if_pos h, show k * 3 / 3 = k by omega, show k * 3 % 3 = 0 by omega]
          simp [adrCell]
        · rw [if_neg h0]
          have : (t / 3 < k + 1) ↔ (t / 3 < k) := by omega
          simp [adrCell, this]
  · have hr : ∀ q, (pd A z n q)[t]? = none := fun q => List.getElem?_eq_none (by simp [pd]; omega)
    rw [hr, hr, if_neg (by omega), if_neg (by omega), if_neg (by omega)]
theorem run_mk27 (A : Nat → Nat → Int) (z : Option Addr) (c : Nat) (hc : c ≤ 1048576) (w : World) : (Instr.makeSlice 27 (.int .i64 c) (.int .i64 c)).run Ybad.prog w = .ok (.slice (some ⟨w.heap.size, 0, none⟩) c c) (w.alloc (.cells (pd A z c 0).toArray 35)) := by
  obtain ⟨i0, hi0, hz0, hz1, hz2⟩ := info_parts info35
  have e : madeCells (Value.agg noAddr).cells (c * 3) = (pd A z c 0).toArray := by
    simp [madeCells, pd, Value.cells]
    apply Array.ext
    · simp
    · intro i h1 h2
      have h3 : i % 3 = 0 ∨ i % 3 = 1 ∨ i % 3 = 2 := by omega
      rcases h3 with h3 | h3 | h3 <;> simp [adrCell, noAddr, h3]
  rw [run_make w 27 35 i0 (.agg noAddr) Ybad.underlying27 hi0 hz0 .i64 .i64 c c (by omega) (by omega) (by rw [hz2]; omega) (by omega)]
  simp only [Int.toNat_natCast, hz1, e]

/-- A slice of uint32 that came in. -/
def RowM (w : World) (ao : Option Addr) (zs : List Int) : Prop := zs = [] ∨ ∃ b off, ao = some ⟨b, off, none⟩ ∧ b < w.heap.size ∧ ∀ i, i < zs.length → w.cell? ⟨b, off + i, none⟩ = some (.int .u32 (zs.getD i 0))
/-- A slice of [4]byte that came in. -/
def RowA (w : World) (ao : Option Addr) (n : Nat) (A : Nat → Nat → Int) : Prop :=
  (∀ i j, 0 ≤ A i j ∧ A i j ≤ 255) ∧ (n = 0 ∨ ∃ b off, ao = some ⟨b, off, none⟩ ∧ b < w.heap.size ∧ ∀ i, i < n → ∀ j, j < 4 → w.cell? ⟨b, off + i * 4 + j, none⟩ = some (.int .u8 (A i j)))
theorem RowM.at {w wr : World} {ao : Option Addr} {zs : List Int} (h : RowM w ao zs) (hb : Below w.heap.size w wr) {k : Nat} (hk : k < zs.length) : ∃ b off, ao = some ⟨b, off, none⟩ ∧ b < w.heap.size ∧ wr.cell? ⟨b, off + k, none⟩ = some (.int .u32 (zs.getD k 0)) := by
  rcases h with rfl | ⟨b, off, rfl, hl, hc⟩
  · simp at hk
  · exact ⟨b, off, rfl, hl, (hb.cell (p := ⟨b, off + k, none⟩) hl).trans (hc k hk)⟩
theorem RowA.at {w wr : World} {ao : Option Addr} {n : Nat} {A : Nat → Nat → Int} (h : RowA w ao n A) (hb : Below w.heap.size w wr) {k : Nat} (hk : k < n) :
    ∃ b off, ao = some ⟨b, off, none⟩ ∧ b < w.heap.size ∧ wr.cell? ⟨b, off + k * 4, none⟩ = some (.int .u8 (A k 0)) ∧ wr.cell? ⟨b, off + k * 4 + 1, none⟩ = some (.int .u8 (A k 1)) ∧ wr.cell? ⟨b, off + k * 4 + 2, none⟩ = some (.int .u8 (A k 2)) ∧ wr.cell? ⟨b, off + k * 4 + 3, none⟩ = some (.int .u8 (A k 3)) := by
  rcases h.2 with rfl | ⟨b, off, rfl, hl, hc⟩
  · simp at hk
  · exact ⟨b, off, rfl, hl, (hb.cell (p := ⟨b, off + k * 4, none⟩) hl).trans (hc k hk 0 (by omega)), (hb.cell (p := ⟨b, off + k * 4 + 1, none⟩) hl).trans (hc k hk 1 (by omega)), (hb.cell (p := ⟨b, off + k * 4 + 2, none⟩) hl).trans (hc k hk 2 (by omega)), (hb.cell (p := ⟨b, off + k * 4 + 3, none⟩) hl).trans (hc k hk 3 (by omega))⟩

/-- The memory behind the call of allocate. -/
structure St (w wc : World) (B P N M G : Nat) (mcc mnc : ByteArray) (group code : Int) (zs : List Int) (ps : List Value) (na : Nat) (mu au : Int) (gv av : List Value) : Prop where
  bel : Below B w wc
  o1 : B < P
  o2 : P < N
  hM : M = N + 2
  o3 : M < G
  mt : Blk wc B (zs.map (Value.int .u32)) 26
  pd : Blk wc P ps 35
  nw : Blk wc N [.string mcc, .string mnc] 39
  mp : wc.heap[N + 1]? = some (.map #[] 0)
  m : Blk wc M (mme mcc mnc group code (.slice (some ⟨B, 0, none⟩) zs.length zs.length) (.slice (some ⟨P, 0, none⟩) na na) (N + 1) mu au) 53
  g : Blk wc G gv 56
  h : Blk wc (G + 1) av 35
theorem St.keep {w wc w' : World} {B P N M G : Nat} {mcc mnc : ByteArray} {group code : Int} {zs : List Int} {ps : List Value} {na : Nat} {mu au : Int} {gv av : List Value}
    (s : St w wc B P N M G mcc mnc group code zs ps na mu au gv av) (hb : Below wc.heap.size wc w') : St w w' B P N M G mcc mnc group code zs ps na mu au gv av := by
  have l1 := s.h.lt
  have l2 := s.m.lt
  have o1 := s.o1; have o2 := s.o2; have o3 := s.hM
  refine ⟨s.bel.trans (hb.mono (by omega)), s.o1, s.o2, s.hM, s.o3, s.mt.below hb s.mt.lt, s.pd.below hb s.pd.lt, s.nw.below hb s.nw.lt, ?_, s.m.below hb s.m.lt, s.g.below hb s.g.lt, s.h.below hb s.h.lt⟩
  rw [hb.block _ (by omega)]; exact s.mp
theorem St.drewN {w wc : World} {B P N M G : Nat} {mcc mnc : ByteArray} {group code : Int} {zs : List Int} {ps : List Value} {na : Nat} {mu au : Int} {gv av : List Value}
    (s : St w wc B P N M G mcc mnc group code zs ps na mu au gv av) (n : Nat) : St w (wc.drewN n) B P N M G mcc mnc group code zs ps na mu au gv av :=
  s.keep (below_drewN (Below.refl _ _) n)

theorem some_alloc {W : World} {a : Addr} {v : Value} (o : Obj) (h : W.cell? a = some v) : (W.alloc o).cell? a = some v := by
  have hlt : a.block < W.heap.size := by
    rcases Nat.lt_or_ge a.block W.heap.size with h' | h'
    · exact h'
    · simp [World.cell?, Array.getElem?_eq_none h'] at h
  rw [← h]
  exact ((Below.refl W.heap.size W).alloc (Nat.le_refl _) o).cell hlt
theorem keep2 {W : World} {a : Addr} {v : Value} (c1 c2 : Array Value) (h : W.cell? a = some v) : ((W.alloc (.cells c1 37)).alloc (.cells c2 35)).drew.cell? a = some v :=
  some_alloc _ (some_alloc _ h)
theorem below2 (W : World) (c1 c2 : Array Value) : Below W.heap.size W ((W.alloc (.cells c1 37)).alloc (.cells c2 35)).drew :=
  (((Below.refl W.heap.size W).alloc (Nat.le_refl _) (.cells c1 37)).alloc (by simp) (.cells c2 35)).drew
theorem st_mk {w wc w1 : World} {B P N M : Nat} {mcc mnc : ByteArray} {group code : Int} {zs : List Int} {ps : List Value} {na : Nat} {mu au mu' au' : Int} (gv av : List Value)
    (hN : wc.heap.size = N) (hM : M = N + 2) (hBw : B = w.heap.size) (hBP : B < P) (hbe : Below B w wc) (hmt : Blk wc B (zs.map (Value.int .u32)) 26) (hpd : Blk wc P ps 35)
    (hg : Grew M (((wc.alloc (.cells #[.string mcc, .string mnc] 39)).alloc (.map #[] 0)).alloc (.cells (mme mcc mnc group code (.slice (some ⟨B, 0, none⟩) zs.length zs.length) (.slice (some ⟨P, 0, none⟩) na na) (N + 1) mu au).toArray 53)) w1)
    (hm : Blk w1 M (mme mcc mnc group code (.slice (some ⟨B, 0, none⟩) zs.length zs.length) (.slice (some ⟨P, 0, none⟩) na na) (N + 1) mu' au') 53) :
    St w ((w1.alloc (.cells gv.toArray 56)).alloc (.cells av.toArray 35)) B P N M w1.heap.size mcc mnc group code zs ps na mu' au' gv av := by
  subst hN
  subst hM
  have hpl := hpd.lt
  have hml := hmt.lt
  have hsz : wc.heap.size + 3 ≤ w1.heap.size := by have := hg.size; simp at this; omega
  have e1 : (wc.alloc (.cells #[.string mcc, .string mnc] 39)).heap.size = wc.heap.size + 1 := by simp
  have e2 : ((wc.alloc (.cells #[.string mcc, .string mnc] 39)).alloc (.map #[] 0)).heap.size = wc.heap.size + 2 := by simp
  have gb : Below B w w1 := by
    have h1 := (((hbe.alloc (by omega) (.cells #[.string mcc, .string mnc] 39)).alloc (by omega) (.map #[] 0)).alloc (by omega) (.cells (mme mcc mnc group code (.slice (some ⟨B, 0, none⟩) zs.length zs.length) (.slice (some ⟨P, 0, none⟩) na na) (wc.heap.size + 1) mu au).toArray 53))
    exact h1.trans (hg.below (by omega) (by simp; omega))
  have old : ∀ (b : Nat) (cs : List Value) (T : TypeId), Blk wc b cs T → Blk ((w1.alloc (.cells gv.toArray 56)).alloc (.cells av.toArray 35)) b cs T := by
    intro b cs T h
    have hl := h.lt
    exact ((hg.blk (((h.alloc _).alloc _).alloc _) (by omega)).alloc _).alloc _
  refine ⟨(gb.alloc (by omega) _).alloc (by simp; omega) _, hBP, hpl, rfl, by omega, old _ _ _ hmt, old _ _ _ hpd, ?_, ?_, (hm.alloc _).alloc _, (Blk.new w1 gv 56).alloc _, ?_⟩
  · have h := Blk.new wc [.string mcc, .string mnc] 39
    exact ((hg.blk ((h.alloc _).alloc _) (by omega)).alloc _).alloc _
  · rw [Below.heap_alloc _ _ _ (by simp; omega), Below.heap_alloc _ _ _ (by omega), hg.block _ (by simp) (by omega), Below.heap_alloc _ _ _ (by simp)]
    have hp : ∀ (a : World) (o : Obj), (a.alloc o).heap[a.heap.size]? = some o := fun a o => by
      show (a.heap.push o)[a.heap.size]? = some o
      simp
    have h := hp (wc.alloc (.cells #[.string mcc, .string mnc] 39)) (.map #[] 0)
    rwa [e1] at h
  · have h := Blk.new (w1.alloc (.cells gv.toArray 56)) av 35
    rwa [show (w1.alloc (.cells gv.toArray 56)).heap.size = w1.heap.size + 1 by simp] at h

/-- One address stored into the row. -/
theorem store_adr {wr : World} {P k n : Nat} {A : Nat → Nat → Int} {z : Option Addr} {adr : Array Value} (hb : Blk wr P (pd A z n k) 35) (hk : k < n) (ha : adr.toList = [.int .u64 0, .int .u64 (lo4 (A k 0) (A k 1) (A k 2) (A k 3)), .pointer z]) :
    (storeCells ⟨P, k * 3, none⟩ adr.toList).run Ybad.prog wr = .ok () (wr.setCells P (k * 3) adr.toList) ∧ Blk (wr.setCells P (k * 3) adr.toList) P (pd A z n (k + 1)) 35 ∧ But P wr (wr.setCells P (k * 3) adr.toList) := by
  rw [ha]
  have hl : (pd A z n k).length = n * 3 := by simp [pd]
  refine ⟨?_, ?_, But.setCells _ _ (But.refl P wr)⟩
  · have := run_storeCells_cells (P := Ybad.prog) P (k * 3) [.int .u64 0, .int .u64 (lo4 (A k 0) (A k 1) (A k 2) (A k 3)), .pointer z] 0 wr
      (fun j hj => by simp only [List.length_cons, List.length_nil] at hj; rw [hb.cell, List.getElem?_eq_getElem (by omega)]; rfl) (fun j _ => hb.frozen _)
      (by intro v hv; simp at hv; rcases hv with rfl | rfl | rfl <;> rfl)
    simpa using this
  · have h := Blk.setCells [.int .u64 0, .int .u64 (lo4 (A k 0) (A k 1) (A k 2) (A k 3)), .pointer z] (k * 3) hb
    rw [← pd_set hk]
    exact h
end Go.Proofs.YbulkejeyDoor
