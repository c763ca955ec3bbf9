/- What the row's hypotheses give the walk: the listed variable's cell; the slice of [4]byte cell by cell. -/
import Derived.Test.YbulkejeyDoorMem
import Derived.ProofKit
import Derived.LaidMore
import Derived.OpenShut
import Derived.Deep.Slices
import Derived.Stop.Joined
namespace Go.Proofs.YbulkejeyDoor
open Go.ChangeShapes Go.WideShapes Go.ChangeAt Go.RowKit
set_option linter.unusedVariables false

theorem own : ownKnob Ybad.prog.godebug = none := by kernel_rfl
theorem laidOut : laidOutB Ybad.prog = true := by kernel_rfl
theorem gZ4 : Ybad.prog.globalNamed (Rows.lawS6771AWholeRow.laid.map (·.1)).head! = some 0 := by kernel_rfl
theorem tZ4 : (Ybad.prog.globals[0]?).map (·.type) = some 33 := by kernel_rfl
theorem cells33 : Ybad.prog.cellsOf 33 = 1 := by kernel_rfl
theorem cells31 : Ybad.prog.cellsOf 31 = 1 := by kernel_rfl
theorem cells37 : Ybad.prog.cellsOf 37 = 4 := by kernel_rfl
theorem cells5 : Ybad.prog.cellsOf 5 = 1 := by kernel_rfl

theorem of_laid {W : World} (h : laidMetH Ybad.prog Rows.lawS6771AWholeRow.laid W) : ∃ z, W.cell? ⟨0, 0, none⟩ = some (.pointer z) := by
  rw [MakeChecks.laidMetH_plain _ _ _ (by kernel_rfl)] at h
  obtain ⟨ps, ⟨g0, t0, cs0, f0, p0, q0, hg0, ht0, hv0, hd0, _⟩, _, _⟩ := h
  obtain rfl := Option.some.inj (gZ4.symm.trans hg0)
  obtain rfl := Option.some.inj (tZ4.symm.trans ht0)
  have hu : Ybad.prog.underlying 33 = some (.struct (Ybad.prog.fieldsOf 33)) := by kernel_rfl
  have hf : (Ybad.prog.fieldsOf 33)[0]?.map (fun f => (f.type, f.offset)) = some (31, 0) := by kernel_rfl
  have hp : Ybad.prog.underlying 31 = some (.pointer (Ybad.prog.pointee 31)) := by kernel_rfl
  obtain ⟨xs, n, _, hx, hl, hlen, hel⟩ := DataW.trod_struct hu hd0
  cases hf0 : (Ybad.prog.fieldsOf 33)[0]? with
  | none => rw [hf0] at hf; cases hf
  | some f =>
    rw [hf0] at hf
    simp only [Option.map_some, Option.some.injEq, Prod.mk.injEq] at hf
    have h0 := hel 0 f hf0
    rw [hf.1, hf.2, cells31] at h0
    rw [cells33] at hl
    have hc := World.var?_cell hg0 hv0 0
    have hx0 : ∃ y, xs[0]? = some y := by
      have : xs.length = 1 := by
        simp only [Rows.laid_net_netip_z4, Prod.mk.injEq, DataW.agg.injEq] at hx
        have := congrArg List.length hx.1
        simpa using this.symm
      exact ⟨_, List.getElem?_eq_getElem (by omega)⟩
    obtain ⟨y, hy⟩ := hx0
    rw [hy] at h0
    obtain ⟨c, hc1⟩ := List.length_eq_one_iff.1 hl
    rw [hc1] at h0
    have hc2 : cs0[0]? = some c := by rw [← Array.getElem?_toList, hc1]; rfl
    rw [hc2] at hc
    simp only [List.drop_zero, List.take_succ_cons, List.take_zero] at h0
    rcases DataW.trod_pointer hp h0 with ⟨hc0, _⟩ | ⟨a, cs', y', m, _, hc0, _⟩
    · simp at hc0; subst hc0; exact ⟨none, hc⟩
    · simp at hc0; subst hc0; exact ⟨some a, hc⟩

/-- The slice of [4]byte. -/
theorem open_quads {H : Type} {enc : TypeId × Value → H} {W : World} {ao : Option Addr} {n cap : Nat} {d : DataW H} {p : List MemPlace}
    (h : DataW.Trod enc Ybad.prog W 0 (fun _ => true) true 24 (.slice ao n cap) d p) : ∃ A, RowA W ao n A := by
  obtain ⟨fuel, hf⟩ := h
  rcases Deep.open_slice Ybad.underlying24 hf with ⟨hcs, _⟩ | ⟨a, len, cap', m, k, D, Pl, hcs, _, hl, _, hm, _, hx⟩
  · simp [Value.cells] at hcs
    obtain ⟨rfl, rfl, rfl⟩ := hcs
    exact ⟨fun _ _ => 0, fun _ _ => ⟨by simp, by simp⟩, .inl rfl⟩
  · simp [Value.cells] at hcs
    obtain ⟨rfl, rfl, rfl⟩ := hcs
    simp only [if_true] at hm
    subst hm
    by_cases h0 : n = 0
    · exact ⟨fun _ _ => 0, fun _ _ => ⟨by simp, by simp⟩, .inl h0⟩
    have hcell : ∀ i, i < n → ∀ j, j < 4 → ∃ q : Int, W.cell? ((a.add (i * 4)).add j) = some (.int .u8 q) ∧ 0 ≤ q ∧ q ≤ 255 := by
      intro i hi j hj
      obtain ⟨cs', h1, h2⟩ := hx i (by omega)
      rw [cells37] at h1
      obtain ⟨_, hl4, hc⟩ := World.cells?_some h1
      obtain ⟨xs, m', _, _, _, hxl, hel⟩ := DataW.trod_array Ybad.underlying37 h2
      have hj' := hel j hj
      rw [cells5, Nat.mul_one, List.getElem?_eq_getElem (by omega)] at hj'
      obtain ⟨q, hq, _, hw⟩ := DataW.trod_int Ybad.underlying5 hj'
      have hb := bounds_u8 hw
      refine ⟨q, ?_, hb.1, hb.2⟩
      rw [hc j hj]
      have := congrArg (fun l => l[0]?) hq
      simpa using this
    obtain ⟨b, off, sp⟩ := a
    obtain ⟨q00, h00, _⟩ := hcell 0 (by omega) 0 (by omega)
    obtain rfl : sp = none := by
      cases sp with
      | none => rfl
      | some y => exact absurd h00 (by simp [Addr.add, World.cell?]; split <;> simp)
    have hcell' : ∀ i, i < n → ∀ j, j < 4 → ∃ q : Int, W.cell? ⟨b, off + i * 4 + j, none⟩ = some (.int .u8 q) ∧ 0 ≤ q ∧ q ≤ 255 := by
      intro i hi j hj
      have := hcell i hi j hj
      rwa [Addr.add_lit, Addr.add_lit] at this
    refine ⟨fun i j => if i < n ∧ j < 4 then intOf ((W.cell? ⟨b, off + i * 4 + j, none⟩).getD undef) else 0, ?_, .inr ⟨b, off, rfl, ?_, ?_⟩⟩
    · intro i j
      by_cases hij : i < n ∧ j < 4
      · obtain ⟨q, hq, h1, h2⟩ := hcell' i hij.1 j hij.2
        simp only [hij, and_self, if_true, hq, Option.getD_some, intOf]
        exact ⟨h1, h2⟩
      · simp only [hij, if_false]
        exact ⟨by decide, by decide⟩
    · obtain ⟨q, hq, _⟩ := hcell' 0 (by omega) 0 (by omega)
      rcases Nat.lt_or_ge b W.heap.size with h | h
      · exact h
      · simp [World.cell?, Array.getElem?_eq_none h] at hq
    · intro i hi j hj
      obtain ⟨q, hq, _⟩ := hcell' i hi j hj
      simp only [hi, hj, and_self, if_true, hq, Option.getD_some, intOf]
end Go.Proofs.YbulkejeyDoor
