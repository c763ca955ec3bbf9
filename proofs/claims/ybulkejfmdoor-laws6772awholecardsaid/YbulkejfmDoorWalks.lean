/- AlgByHash ranges over the map in whatever order; the law's walk. -/
import Derived.Test.YbulkejfmDoorBase
import Derived.Maps.RangeRun
import Derived.Laws.IdiomRangeMap
namespace Go.Proofs.YbulkejfmDoor
open Go.RowKit
open Go.ChangeMaps (setBlock)
set_option linter.unusedVariables false

/-- The hash function of each algorithm, by its number. -/
def table : List (Int × Int) := [(1, 0), (4, 3), (5, 0), (6, 0), (8, 0), (11, 5), (12, 6), (13, 7), (16, 0), (20, 0), (22, 0), (24, 0), (35, 0), (64, 0), (65, 0), (66, 0), (67, 0), (68, 0)]
/-- What AlgByHash answers. -/
def algOf (h : Int) : Int × Bool := if h = 3 then (4, true) else if h = 5 then (11, true) else if h = 6 then (12, true) else if h = 7 then (13, true) else (0, false)
theorem algOf_hit {k h : Int} (hm : (k, h) ∈ table) (h0 : h ≠ 0) : algOf h = (k, true) := by
  simp only [table, List.mem_cons, Prod.mk.injEq, List.not_mem_nil, or_false] at hm
  rcases hm with ⟨rfl, rfl⟩ | ⟨rfl, rfl⟩ | ⟨rfl, rfl⟩ | ⟨rfl, rfl⟩ | ⟨rfl, rfl⟩ | ⟨rfl, rfl⟩ | ⟨rfl, rfl⟩ | ⟨rfl, rfl⟩ | ⟨rfl, rfl⟩ | ⟨rfl, rfl⟩ | ⟨rfl, rfl⟩ | ⟨rfl, rfl⟩ | ⟨rfl, rfl⟩ | ⟨rfl, rfl⟩ | ⟨rfl, rfl⟩ | ⟨rfl, rfl⟩ | ⟨rfl, rfl⟩ | ⟨rfl, rfl⟩ <;> first | exact absurd rfl h0 | rfl
theorem algOf_miss {h : Int} (hm : ∀ k, (k, h) ∈ table → h = 0) : algOf h = (0, false) := by
  unfold algOf
  by_cases h3 : h = 3
  · subst h3; have := hm 4 (by decide); omega
  by_cases h5 : h = 5
  · subst h5; have := hm 11 (by decide); omega
  by_cases h6 : h = 6
  · subst h6; have := hm 12 (by decide); omega
  by_cases h7 : h = 7
  · subst h7; have := hm 13 (by decide); omega
  rw [if_neg h3, if_neg h5, if_neg h6, if_neg h7]

/-- The map's entries are the table's. -/
structure Tab (es : Array MapEntry) (clock : Nat) : Prop where
  old : ∀ x ∈ es.toList, x.born < clock
  nodup : (es.toList.map (·.born)).Nodup
  each : ∀ x ∈ es.toList, ∃ (k h g : Int) (s : ByteArray), x.key = .int .u16 k ∧ x.val = .agg #[.string s, .int .u64 h, .int .u16 g] ∧ (k, h) ∈ table
  all : ∀ k h, (k, h) ∈ table → ∃ x ∈ es.toList, ∃ (g : Int) (s : ByteArray), x.val = .agg #[.string s, .int .u64 h, .int .u16 g]

/-- The range stands at block r, over the map at bm, with these stamps seen; no entry seen holds h. -/
structure At (w wr : World) (r bm : Nat) (es : Array MapEntry) (clock : Nat) (seen : Array Nat) (h : Int) : Prop where
  bel : Below r w wr
  it : ∃ c0, clock ≤ c0 ∧ wr.heap[r]? = some (.mapIter (some bm) clock seen c0)
  mp : wr.heap[bm]? = some (.map es clock)
  none : ∀ x ∈ es.toList, seen.contains x.born = true → ∀ (g q : Int) (s : ByteArray), x.val = .agg #[.string s, .int .u64 q, .int .u16 g] → q = 0 ∨ q ≠ h

theorem next_any {w wr : World} {r bm : Nat} {es : Array MapEntry} {clock : Nat} {seen : Array Nat} {h : Int} (hA : At w wr r bm es clock seen h) (hT : Tab es clock) (hbr : bm < r) (ty : TypeId) :
    ((leftOf es seen).size = 0 ∧ (Instr.next (.pointer (some ⟨r, 0, none⟩)) false ty).run Ybad.prog wr = .ok (.tuple #[.bool false]) wr) ∨
    ∃ e ∈ es.toList, ∃ w2 : World, (Instr.next (.pointer (some ⟨r, 0, none⟩)) false ty).run Ybad.prog wr = .ok (.tuple #[.bool true, e.key, e.val]) w2 ∧ Below r w w2 ∧ w2.heap.size = wr.heap.size ∧
      w2.heap[r]? = some (.mapIter (some bm) clock (seen.push e.born) clock) ∧ w2.heap[bm]? = some (.map es clock) ∧ (leftOf es (seen.push e.born)).size < (leftOf es seen).size ∧
      (Instr.entry (.pointer (some ⟨r, 0, none⟩))).run Ybad.prog w2 = .ok (.tuple #[e.key, e.val]) w2 := by
  obtain ⟨c0, hc0, hit⟩ := hA.it
  rcases run_next_at (P := Ybad.prog) wr ty r bm clock c0 seen es clock hit hA.mp hT.old hc0 with hl | ⟨e, he, w1, hw1, hrun⟩
  · exact .inl hl
  · right
    have hmem := mem_left he
    have hr : r < wr.heap.size := (Array.getElem?_eq_some_iff.1 hit).1
    have e1 : w1.heap = wr.heap := by rcases hw1 with rfl | rfl <;> rfl
    have h1 : (setBlock w1 r (.mapIter (some bm) clock (seen.push e.born) clock)).heap[r]? = some (.mapIter (some bm) clock (seen.push e.born) clock) := by
      show (w1.heap.setIfInBounds r _)[r]? = _
      rw [e1]; simp [hr]
    have h2 : (setBlock w1 r (.mapIter (some bm) clock (seen.push e.born) clock)).heap[bm]? = some (.map es clock) := by
      show (w1.heap.setIfInBounds r _)[bm]? = _
      rw [e1, Array.getElem?_setIfInBounds_ne (by omega)]; exact hA.mp
    refine ⟨e, hmem.1, _, hrun, ?_, ?_, h1, h2, left_shrinks es seen e he, run_entry_at _ r bm clock seen es clock e h1 h2 hmem.1 hT.nodup⟩
    · refine hA.bel.trans ⟨?_, ?_, ?_, ?_, fun k hk => ?_⟩
      · rcases hw1 with rfl | rfl <;> rfl
      · rcases hw1 with rfl | rfl <;> rfl
      · rcases hw1 with rfl | rfl <;> rfl
      · show wr.heap.size ≤ (w1.heap.setIfInBounds r _).size
        rw [e1]; simp
      · show (w1.heap.setIfInBounds r _)[k]? = _
        rw [e1, Array.getElem?_setIfInBounds_ne (by omega)]
    · show (w1.heap.setIfInBounds r _).size = _
      rw [e1]; simp

theorem born_inj : ∀ {l : List MapEntry} {x y : MapEntry}, (l.map (·.born)).Nodup → x ∈ l → y ∈ l → x.born = y.born → x = y
  | [], _, _, _, hx, _, _ => by cases hx
  | a :: l, x, y, hn, hx, hy, hb => by
    rw [List.map_cons, List.nodup_cons] at hn
    rcases List.mem_cons.1 hx with rfl | hx'
    · rcases List.mem_cons.1 hy with rfl | hy'
      · rfl
      · exact absurd (List.mem_map.2 ⟨y, hy', hb.symm⟩) hn.1
    · rcases List.mem_cons.1 hy with rfl | hy'
      · exact absurd (List.mem_map.2 ⟨x, hx', hb⟩) hn.1
      · exact born_inj hn.2 hx' hy' hb

set_option maxHeartbeats 400000 in
theorem alg_any (h : Int) (bm : Nat) (es : Array MapEntry) (clock : Nat) (w : World) (hT : Tab es clock) (hg : w.cell? ⟨0, 0, none⟩ = some (.map (some bm))) (hm : w.heap[bm]? = some (.map es clock)) :
    Calls Ybad.prog 4 #[.int .u64 h] w fun e w' => e = .returned (.tuple #[.int .u16 (algOf h).1, .bool (algOf h).2]) ∧ Below w.heap.size w w' := by
  have hb : bm < w.heap.size := (Array.getElem?_eq_some_iff.1 hm).1
  have HT := hide hT
  have hrg : (Instr.range 29 (.map (some bm))).run Ybad.prog w = .ok (.pointer (some ⟨w.heap.size, 0, none⟩)) (w.alloc (.mapIter (some bm) clock #[] clock)) := by
    simp [Instr.range, run_underlying Ybad.underlying29, getObj, Sem.run, hm, Result.andThen, newObj]
  have h0 : At w (w.alloc (.mapIter (some bm) clock #[] clock)) w.heap.size bm es clock #[] h := by
    refine ⟨(Below.refl _ _).alloc (Nat.le_refl _) _, ⟨clock, Nat.le_refl _, heap_alloc_new w _⟩, by rw [heap_alloc_old w _ hb]; exact hm, fun x _ hx => ?_⟩
    simp at hx
  have H0 := hide h0
  clear h0 hT hm
  go_enter Ybad.func4, Ybad.ntmps4
  go_wp2
  clear hrg
  go_loopw [4] (fun _ wr => ∃ seen, At w wr w.heap.size bm es clock seen h) (fun _ wr => (leftOf es (wr.iterSeen w.heap.size)).size)
  case atStart => exact ⟨_, unhide H0⟩
  case round =>
    clear H0
    obtain ⟨seen, hA⟩ := hrel
    have hseen : wr.iterSeen w.heap.size = seen := by
      obtain ⟨c0, _, hit⟩ := hA.it
      simp [World.iterSeen, hit]
    have hnone := hA.none
    rcases next_any hA HT.out hb 0 with ⟨hl, hrun⟩ | ⟨e, he, w2, hrun, hbel2, hsz2, hr2, hm2, hlt, hent⟩
    · have hmiss : algOf h = (0, false) := by
        refine algOf_miss fun k hk => ?_
        obtain ⟨x, hx, g, s, hv⟩ := HT.out.all k h hk
        rcases hA.none x hx (all_seen es seen hl x hx) g h s hv with h1 | h1
        · exact h1
        · exact absurd rfl h1
      have HE := hide hA.bel
      have HM := hide hmiss
      clear hA hseen hnone hmiss hl hg
      go_wp2
      go_ret2
      rw [HM.out]
      exact ⟨rfl, unhide HE⟩
    · obtain ⟨k, q, g, s, hk, hv, hin⟩ := HT.out.each e he
      rw [hk, hv] at hrun hent
      have HE := hide hbel2
      have HK : Hid (∀ o : Obj, (q = 0 ∨ q ≠ h) → At w (w2.alloc o) w.heap.size bm es clock (seen.push e.born) h ∧ (leftOf es ((w2.alloc o).iterSeen w.heap.size)).size < (leftOf es seen).size) := by
        intro o hq
        have hr : w.heap.size < w2.heap.size := (Array.getElem?_eq_some_iff.1 hr2).1
        have hit : (w2.alloc o).heap[w.heap.size]? = some (.mapIter (some bm) clock (seen.push e.born) clock) := by rw [heap_alloc_old w2 o hr]; exact hr2
        refine ⟨⟨hbel2.alloc (by omega) _, ⟨clock, Nat.le_refl _, hit⟩, by rw [heap_alloc_old w2 o (by omega)]; exact hm2, fun x hx hc g' q' s' hv' => ?_⟩, by simpa [World.iterSeen, hit] using hlt⟩
        rw [contains_push, Bool.or_eq_true] at hc
        rcases hc with hc | hc
        · exact hnone x hx hc g' q' s' hv'
        · obtain rfl := born_inj HT.out.nodup hx he (by simpa using hc)
          rw [hv] at hv'
          obtain ⟨_, hqq, _⟩ : Value.string s = .string s' ∧ Value.int .u64 q = .int .u64 q' ∧ Value.int .u16 g = .int .u16 g' := by simpa using hv'
          obtain rfl := (Value.int.inj hqq).2
          exact hq
      have HH : Hid (q ≠ 0 → q = h → algOf h = (k, true)) := fun h0 h1 => algOf_hit (by rw [← h1]; exact hin) (by rw [← h1]; exact h0)
      clear hA hnone hbel2 hm2 hr2 hk hv hin hlt hg
      by_cases hq0 : q = 0
      · have HQ : Hid (q = 0) := hq0
        subst hq0
        go_wp2
        go_roundw
        case rel => exact ⟨_, (HK.out _ (.inl rfl)).1⟩
        case measure => rw [hseen]; exact (HK.out _ (.inl rfl)).2
      · have hq1 : (q != 0) = true := by simpa using hq0
        by_cases hqh : q = h
        · have hq2 : (q == h) = true := by simpa using hqh
          have HR := hide (HH.out hq0 hqh)
          clear HH HK hseen
          go_wp2
          go_ret2
          rw [HR.out]
          exact ⟨rfl, HE.out.alloc HE.out.size _⟩
        · have hq2 : (q == h) = false := by simpa using hqh
          go_wp2
          go_roundw
          case rel => exact ⟨_, (HK.out _ (.inr hqh)).1⟩
          case measure => rw [hseen]; exact (HK.out _ (.inr hqh)).2

theorem expect_any (h : Int) (w : World) : Calls Ybad.prog 5 #[.int .u64 h] w fun e w' => e = .returned (.tuple #[.int .u16 (algOf h).1, .bool (algOf h).2]) ∧ w' = w := by
  unfold algOf
  by_cases h3 : h = 3
  · subst h3
    go_enter Ybad.func5, Ybad.ntmps5
    go_wp2
    go_ret2
    exact ⟨rfl, rfl⟩
  by_cases h5 : h = 5
  · subst h5
    go_enter Ybad.func5, Ybad.ntmps5
    go_wp2
    go_ret2
    exact ⟨rfl, rfl⟩
  by_cases h6 : h = 6
  · subst h6
    go_enter Ybad.func5, Ybad.ntmps5
    go_wp2
    go_ret2
    exact ⟨rfl, rfl⟩
  by_cases h7 : h = 7
  · subst h7
    go_enter Ybad.func5, Ybad.ntmps5
    go_wp2
    go_ret2
    exact ⟨rfl, rfl⟩
  rw [if_neg h3, if_neg h5, if_neg h6, if_neg h7]
  have g3 : (h == 3) = false := by simpa using h3
  have g5 : (h == 5) = false := by simpa using h5
  have g6 : (h == 6) = false := by simpa using h6
  have g7 : (h == 7) = false := by simpa using h7
  clear h3 h5 h6 h7
  go_enter Ybad.func5, Ybad.ntmps5
  go_wp2
  go_ret2
  exact ⟨rfl, rfl⟩

set_option maxHeartbeats 400000 in
theorem law_any (h : Int) (bm : Nat) (es : Array MapEntry) (clock : Nat) (w : World) (hT : Tab es clock) (hg : w.cell? ⟨0, 0, none⟩ = some (.map (some bm))) (hm : w.heap[bm]? = some (.map es clock)) :
    Calls Ybad.prog 3 #[.int .u64 h] w fun e w' => e = .returned (.bool true) ∧ Below w.heap.size w w' := by
  have h1 := hide (alg_any h bm es clock w hT hg hm)
  have h2 := hide (fun w => expect_any h w)
  clear hT hg hm
  generalize (algOf h).1 = k at *
  generalize (algOf h).2 = q at *
  have hk : (k == k) = true := by simp
  have hq : (q == q) = true := by simp
  go_enter Ybad.func3, Ybad.ntmps3
  go_wp2_with fail
  refine (unhide h1).mono ?_
  rintro e w1 ⟨rfl, hb⟩
  have HB := hide hb
  clear hb
  go_wp2_with fail
  refine (unhide h2 _).mono ?_
  rintro e w2 ⟨rfl, hw⟩
  obtain rfl := hw.symm
  go_wp2
  go_ret
  exact ⟨rfl, unhide HB⟩
end Go.Proofs.YbulkejfmDoor
