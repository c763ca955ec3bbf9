/- From the row's reading of the slice of itineraries to what the walk is told. -/
import Derived.Test.YbulkejacFmtMem
import Derived.Deep.SlicePairs
import Derived.SizedLaws
import Derived.ChangeSlices
namespace Go.Proofs.YbulkejacFmt
open Go.ChangeShapes Go.WideShapes Go.RowKit
set_option linter.unusedVariables false

theorem bytes25 : Ybaf.prog.bytesOf 25 = 40 := by kernel_rfl
theorem bytes51 : Ybaf.prog.bytesOf 51 = 80 := by kernel_rfl
theorem cells51 : Ybaf.prog.cellsOf 51 = 6 := by kernel_rfl
theorem cells9 : Ybaf.prog.cellsOf 9 = 1 := by kernel_rfl
theorem cells2 : Ybaf.prog.cellsOf 2 = 1 := by kernel_rfl

theorem weightsAll_mem {H : Type} {P : Program} {e : TypeId} : ∀ {l : List (DataW H)} {d : DataW H}, d ∈ l → ∀ n ∈ d.weights P e, n ∈ DataW.weightsAll P e l
  | d' :: r, d, hd, n, hn => by
    simp only [DataW.weightsAll, List.mem_append]
    rcases List.mem_cons.1 hd with rfl | h
    · exact Or.inl hn
    · exact Or.inr (weightsAll_mem h n hn)

theorem plain_addr {w : World} {a : Addr} {v : Value} (h : w.cell? (a.add 0) = some v) : ∃ b off, a = ⟨b, off, none⟩ ∧ b < w.heap.size := by
  obtain ⟨b, off, sp⟩ := a
  have hl : b < w.heap.size := by
    rcases Nat.lt_or_ge b w.heap.size with h1 | h1
    · exact h1
    · simp [World.cell?, Addr.add, Array.getElem?_eq_none h1] at h
  cases sp with
  | none => exact ⟨b, off, rfl, hl⟩
  | some y => exact absurd h (by simp [Addr.add, World.cell?]; split <;> simp)

set_option maxRecDepth 100000 in
/-- One booking, its six cells opened. -/
theorem bk_of {H : Type} {enc : TypeId × Value → H} {W : World} {base n : Nat} {sp : Nat → Bool} {held : Bool} {cs : List Value} {x : DataW H × List MemPlace}
    (h : DataW.trod enc Ybaf.prog W base sp held n 51 cs = some x) (hw : ∀ m ∈ x.1.weights Ybaf.prog 51, m ≤ reachBytes) :
    ∃ bk : Bk, (∀ j, j < 6 → cs[j]? = some (bkCell bk j)) ∧ bk.id.size ≤ 140737488351232 := by
  have hu : Ybaf.prog.underlying 51 = some (.struct (Ybaf.prog.fieldsOf 51)) := by kernel_rfl
  have hsz : (Ybaf.prog.fieldsOf 51).size = 6 := by kernel_rfl
  have f0 : (Ybaf.prog.fieldsOf 51)[0]?.map (fun f => (f.type, f.offset)) = some (9, 0) := by kernel_rfl
  have f1 : (Ybaf.prog.fieldsOf 51)[1]?.map (fun f => (f.type, f.offset)) = some (9, 1) := by kernel_rfl
  have f2 : (Ybaf.prog.fieldsOf 51)[2]?.map (fun f => (f.type, f.offset)) = some (2, 2) := by kernel_rfl
  have f3 : (Ybaf.prog.fieldsOf 51)[3]?.map (fun f => (f.type, f.offset)) = some (2, 3) := by kernel_rfl
  have f4 : (Ybaf.prog.fieldsOf 51)[4]?.map (fun f => (f.type, f.offset)) = some (9, 4) := by kernel_rfl
  have f5 : (Ybaf.prog.fieldsOf 51)[5]?.map (fun f => (f.type, f.offset)) = some (9, 5) := by kernel_rfl
  obtain ⟨xs, m, _, rfl, hl, hlen, hel⟩ := DataW.trod_struct hu h
  rw [cells51] at hl
  rw [hsz] at hlen
  match cs, hl with
  | [c0, c1, c2, c3, c4, c5], _ =>
    match xs, hlen with
    | [y0, y1, y2, y3, y4, y5], _ =>
      have gf : ∀ (i t o : Nat), (Ybaf.prog.fieldsOf 51)[i]?.map (fun f => (f.type, f.offset)) = some (t, o) → DataW.trod enc Ybaf.prog W base sp held m t (([c0, c1, c2, c3, c4, c5].drop o).take (Ybaf.prog.cellsOf t)) = [y0, y1, y2, y3, y4, y5][i]? := by
        intro i t o hf
        cases hfi : (Ybaf.prog.fieldsOf 51)[i]? with
        | none => rw [hfi] at hf; cases hf
        | some f =>
          rw [hfi] at hf
          simp only [Option.map_some, Option.some.injEq, Prod.mk.injEq] at hf
          have := hel i f hfi
          rw [hf.1, hf.2] at this
          exact this
      have g0 := gf 0 9 0 f0
      have g1 := gf 1 9 1 f1
      have g2 := gf 2 2 2 f2
      have g3 := gf 3 2 3 f3
      have g4 := gf 4 9 4 f4
      have g5 := gf 5 9 5 f5
      rw [cells9] at g0 g1 g4 g5
      rw [cells2] at g2 g3
      obtain ⟨s0, e0, e0', z0⟩ := DataW.trod_string Ybaf.underlying9 (show DataW.trod enc Ybaf.prog W base sp held m 9 [c0] = some y0 from g0)
      obtain ⟨s1, e1, _⟩ := DataW.trod_string Ybaf.underlying9 (show DataW.trod enc Ybaf.prog W base sp held m 9 [c1] = some y1 from g1)
      obtain ⟨q2, e2, _⟩ := DataW.trod_int Ybaf.underlying2 (show DataW.trod enc Ybaf.prog W base sp held m 2 [c2] = some y2 from g2)
      obtain ⟨q3, e3, _⟩ := DataW.trod_int Ybaf.underlying2 (show DataW.trod enc Ybaf.prog W base sp held m 2 [c3] = some y3 from g3)
      obtain ⟨s4, e4, _⟩ := DataW.trod_string Ybaf.underlying9 (show DataW.trod enc Ybaf.prog W base sp held m 9 [c4] = some y4 from g4)
      obtain ⟨s5, e5, _⟩ := DataW.trod_string Ybaf.underlying9 (show DataW.trod enc Ybaf.prog W base sp held m 9 [c5] = some y5 from g5)
      simp only [List.cons.injEq, and_true] at e0 e1 e2 e3 e4 e5
      subst e0 e1 e2 e3 e4 e5
      refine ⟨⟨s0, s1, q2, q3, s4, s5⟩, fun j hj => ?_, ?_⟩
      · match j, hj with
        | 0, _ | 1, _ | 2, _ | 3, _ | 4, _ | 5, _ => rfl
      · have h9 : ((Ybaf.prog.fieldsOf 51).toList.map (·.type))[0]? = some 9 := by kernel_rfl
        have hm := hw s0.data.toList.length (by
          simp only [DataW.weights, hu]
          refine DataW.weights_mem_each (j := 0) (t := 9) (d := .lit (.string s0.data.toList)) h9 (by simp [e0']) _ ?_
          simp [DataW.weights])
        unfold reachBytes at hm
        rw [Array.length_toList] at hm
        exact hm

/-- What the walk is told of the slice of itineraries that came in. -/
theorem opened {H : Type} {enc : TypeId × Value → H} {W : World} {fuel : Nat} {a0 : Option Addr} {len0 cap0 : Nat} {x : DataW H × List MemPlace}
    (h : DataW.trod enc Ybaf.prog W 0 (fun _ => true) true fuel 22 [.slice a0 len0 cap0] = some x) (hw : ∀ m ∈ x.1.weights Ybaf.prog 22, m ≤ reachBytes) :
    ∃ es, EntRow W a0 es ∧ es.length = len0 ∧ len0 ≤ 4398046511104 ∧ ∀ e ∈ es, ∀ x ∈ e.bs, x.id.size ≤ 140737488351232 := by
  rcases Deep.open_slice_pairs Ybaf.underlying22 Ybaf.underlying25 (by kernel_rfl) rfl rfl (by kernel_rfl) (by kernel_rfl) h with ⟨hcs, _⟩ | ⟨a, len, cap, m, nf, V0, V1, D0, D1, P0, P1, hcs, _, hl, _, hm, rfl, hx⟩
  · simp only [List.cons.injEq, Value.slice.injEq, and_true] at hcs
    obtain ⟨rfl, rfl, rfl⟩ := hcs
    exact ⟨[], ⟨fun s hs => (by cases hs), .inl rfl⟩, rfl, by omega, fun s hs => by cases hs⟩
  · simp only [List.cons.injEq, Value.slice.injEq, and_true] at hcs
    obtain ⟨rfl, rfl, rfl⟩ := hcs
    simp only [if_true] at hm
    subst hm
    simp only [DataW.weights, Ybaf.underlying22, List.mem_cons, List.mem_append, bytes25, List.length_map, List.length_range] at hw
    have hn : len0 ≤ 4398046511104 := by
      have := hw _ (.inl rfl)
      unfold reachBytes at this
      omega
    have each : ∀ i, i < len0 → ∃ e : Ent, V0 i = .string e.id ∧ V1 i = .slice e.ao e.bs.length e.cap ∧ BkRow W e.ao e.bs ∧ e.bs.length ≤ 1759218604441 ∧ e.id.size ≤ maxLen ∧ ∀ x ∈ e.bs, x.id.size ≤ 140737488351232 := by
      intro i hi
      obtain ⟨_, _, t0, t1⟩ := hx i (by omega)
      obtain ⟨z, hz, _, hzl⟩ := DataW.trod_string Ybaf.underlying9 t0
      simp only [List.cons.injEq, and_true] at hz
      have hwi : ∀ m ∈ (D1 i).weights Ybaf.prog 23, m ≤ reachBytes := fun m hmm => hw m (.inr (.inl (weightsAll_mem (d := .agg [D0 i, D1 i]) (List.mem_map.2 ⟨i, List.mem_range.2 hi, rfl⟩) m (by
        simp only [DataW.weights, Ybaf.underlying25]
        exact DataW.weights_mem_each (j := 1) rfl rfl m hmm))))
      rcases Deep.open_slice Ybaf.underlying23 t1 with ⟨hcs, _⟩ | ⟨y, l, c, m2, nf2, D, Pl, hcs, _, hl2, _, hm2, hd, hel⟩
      · simp only [List.cons.injEq, and_true] at hcs
        exact ⟨⟨z, none, 0, []⟩, hz, hcs, .inl rfl, by simp, hzl, fun x hx => by cases hx⟩
      · simp only [List.cons.injEq, and_true] at hcs
        simp only [if_true] at hm2
        subst hm2
        rw [(Prod.mk.inj hd).1] at hwi
        simp only [DataW.weights, Ybaf.underlying23, List.mem_cons, List.mem_append, bytes51, List.length_map, List.length_range] at hwi
        have hll : l ≤ 1759218604441 := by
          have := hwi _ (.inl rfl)
          unfold reachBytes at this
          omega
        have bks : ∀ k, k < l → ∃ bk : Bk, (∀ j, j < 6 → W.cell? (y.add (k * 6 + j)) = some (bkCell bk j)) ∧ bk.id.size ≤ 140737488351232 := by
          intro k hk
          obtain ⟨cs', h1, h2⟩ := hel k (by omega)
          rw [cells51] at h1
          obtain ⟨_, hlen, hcell⟩ := World.cells?_some h1
          obtain ⟨bk, hb1, hb2⟩ := bk_of h2 (fun m hmm => hwi m (.inr (.inl (weightsAll_mem (d := D k) (List.mem_map.2 ⟨k, List.mem_range.2 hk, rfl⟩) m hmm))))
          refine ⟨bk, fun j hj => ?_, hb2⟩
          rw [← hb1 j hj, ← hcell j hj, Deep.add_add]
        haveI : Inhabited Bk := ⟨zbk⟩
        obtain ⟨q, hq⟩ := Deep.choose_lt bks
        have hlq : ((List.range l).map q).length = l := by simp
        refine ⟨⟨z, some y, _, (List.range l).map q⟩, hz, by simp only [hlq]; exact hcs, ?_, by simp only [hlq]; exact hll, hzl, fun x hx => ?_⟩
        · by_cases h0 : l = 0
          · exact .inl (by simp [h0])
          · obtain ⟨b, off, rfl, hb⟩ := plain_addr (by have := (hq 0 (by omega)).1 0 (by omega); simpa using this)
            refine .inr ⟨b, off, rfl, hb, fun j v hj => ?_⟩
            have hjl : j < l * 6 := by
              have := (List.getElem?_eq_some_iff.1 hj).1
              rwa [rowCells_length, hlq] at this
            rw [rowCells_at (by rw [hlq]; exact hjl)] at hj
            have hc := (hq (j / 6) (by omega)).1 (j % 6) (Nat.mod_lt _ (by omega))
            rw [Addr.add_lit, show j / 6 * 6 + j % 6 = j by omega] at hc
            rw [hc, ← hj]
            simp [List.getD, show j / 6 < l by omega]
        · obtain ⟨k, hk, rfl⟩ := List.mem_map.1 hx
          exact (hq k (List.mem_range.1 hk)).2
    haveI : Inhabited Ent := ⟨noEnt⟩
    obtain ⟨q, hq⟩ := Deep.choose_lt each
    have hget : ∀ i, i < len0 → ((List.range len0).map q).getD i noEnt = q i := fun i hi => by simp [List.getD, hi]
    refine ⟨(List.range len0).map q, ⟨fun s hs => ?_, ?_⟩, by simp, hn, fun s hs => ?_⟩
    · obtain ⟨i, hi, rfl⟩ := List.mem_map.1 hs
      have := hq i (List.mem_range.1 hi)
      exact ⟨this.2.2.1, this.2.2.2.1, this.2.2.2.2.1⟩
    · by_cases h0 : len0 = 0
      · exact .inl (by simp [h0])
      · obtain ⟨c0, _, _, _⟩ := hx 0 (by omega)
        rw [Nat.zero_mul] at c0
        obtain ⟨b, off, rfl, hb⟩ := plain_addr c0
        refine .inr ⟨b, off, rfl, hb, fun i hi => ?_⟩
        have hil : i < len0 := by simpa using hi
        obtain ⟨c0, c1, _, _⟩ := hx i (by omega)
        obtain ⟨e0, e1, _⟩ := hq i hil
        rw [hget i hil, ← e0, ← e1]
        rw [Addr.add_lit] at c0 c1
        exact ⟨c0, c1⟩
    · obtain ⟨i, hi, rfl⟩ := List.mem_map.1 hs
      exact (hq i (List.mem_range.1 hi)).2.2.2.2.2
end Go.Proofs.YbulkejacFmt
