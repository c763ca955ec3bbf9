/- From the row's hypothesis on the listed map to the walk; the row; the tied card closed. -/
import Derived.Test.YbulkejfmDoorWalks
import Derived.Test.YbulkejfmDoorCards
import Derived.Test.YbulkejfmDoorTie
import Derived.ProofKit
import Derived.LaidMore
import Derived.OpenShut
import Derived.Maps.Range
import Derived.WalkSmall
import Derived.Stop.Joined
import Derived.SevenTiedAt
namespace Go.Proofs.YbulkejfmDoor
open Go.ChangeShapes Go.WideShapes Go.ChangeAt Go.WideMaps Go.WideElems Go.RowKit
set_option linter.unusedVariables false

theorem own : ownKnob Ybad.prog.godebug = none := by kernel_rfl
theorem laidOut : laidOutB Ybad.prog = true := by kernel_rfl
theorem gAlgs : Ybad.prog.globalNamed (Rows.lawS6772AWholeRow.laid.map (·.1)).head! = some 0 := by kernel_rfl
theorem tAlgs : (Ybad.prog.globals[0]?).map (·.type) = some 29 := by kernel_rfl
theorem cells30 : Ybad.prog.cellsOf 30 = 3 := by kernel_rfl
theorem cells9 : Ybad.prog.cellsOf 9 = 1 := by kernel_rfl
theorem cells27 : Ybad.prog.cellsOf 27 = 1 := by kernel_rfl
theorem cells24 : Ybad.prog.cellsOf 24 = 1 := by kernel_rfl

/-- The listed datum's entries. -/
def entriesOf {H : Type} : DataW H → List (Lit × DataW H)
  | .map es => es
  | _ => []
theorem datum_shape {H : Type} : ∀ y ∈ entriesOf (Rows.laid_example_com_quote_to_verdict_quote_to_verdict_internal_tpm_algs (H := H)), ∃ (k q g : Int) (bs : List UInt8), y = (.int .u16 k, .agg [.lit (.string bs), .lit (.int .u64 q), .lit (.int .u16 g)]) ∧ (k, q) ∈ table := by
  intro y hy
  simp only [entriesOf, Rows.laid_example_com_quote_to_verdict_quote_to_verdict_internal_tpm_algs, List.mem_cons, List.not_mem_nil, or_false] at hy
  rcases hy with rfl | rfl | rfl | rfl | rfl | rfl | rfl | rfl | rfl | rfl | rfl | rfl | rfl | rfl | rfl | rfl | rfl | rfl <;> exact ⟨_, _, _, _, rfl, by decide⟩
theorem datum_all {H : Type} : ∀ k q, (k, q) ∈ table → ∃ (g : Int) (bs : List UInt8), ((.int .u16 k, .agg [.lit (.string bs), .lit (.int .u64 q), .lit (.int .u16 g)]) : Lit × DataW H) ∈ entriesOf (Rows.laid_example_com_quote_to_verdict_quote_to_verdict_internal_tpm_algs (H := H)) := by
  intro k q h
  simp only [table, List.mem_cons, Prod.mk.injEq, List.not_mem_nil, or_false] at h
  rcases h with ⟨rfl, rfl⟩ | ⟨rfl, rfl⟩ | ⟨rfl, rfl⟩ | ⟨rfl, rfl⟩ | ⟨rfl, rfl⟩ | ⟨rfl, rfl⟩ | ⟨rfl, rfl⟩ | ⟨rfl, rfl⟩ | ⟨rfl, rfl⟩ | ⟨rfl, rfl⟩ | ⟨rfl, rfl⟩ | ⟨rfl, rfl⟩ | ⟨rfl, rfl⟩ | ⟨rfl, rfl⟩ | ⟨rfl, rfl⟩ | ⟨rfl, rfl⟩ | ⟨rfl, rfl⟩ | ⟨rfl, rfl⟩ <;> exact ⟨_, _, by simp [entriesOf, Rows.laid_example_com_quote_to_verdict_quote_to_verdict_internal_tpm_algs]; exact ⟨rfl, rfl⟩⟩

/-- One entry's value, opened. -/
theorem val_of {H : Type} {enc : TypeId × Value → H} {W : World} {base n : Nat} {sp : Nat → Bool} {held : Bool} {v : Value} {z : DataW H × List MemPlace} {q g : Int} {bs : List UInt8}
    (h : elemAt enc Ybad.prog W base sp held n 30 v = some z) (hz : z.1 = .agg [.lit (.string bs), .lit (.int .u64 q), .lit (.int .u16 g)]) :
    ∃ s : ByteArray, v = .agg #[.string s, .int .u64 q, .int .u16 g] := by
  unfold elemAt at h
  split at h
  case isFalse => cases h
  rename_i hform
  have hu : Ybad.prog.underlying 30 = some (.struct (Ybad.prog.fieldsOf 30)) := by kernel_rfl
  have f0 : (Ybad.prog.fieldsOf 30)[0]?.map (fun f => (f.type, f.offset)) = some (9, 0) := by kernel_rfl
  have f1 : (Ybad.prog.fieldsOf 30)[1]?.map (fun f => (f.type, f.offset)) = some (27, 1) := by kernel_rfl
  have f2 : (Ybad.prog.fieldsOf 30)[2]?.map (fun f => (f.type, f.offset)) = some (24, 2) := by kernel_rfl
  obtain ⟨xs, m, _, hx, hl, hlen, hel⟩ := DataW.trod_struct hu h
  rw [hx] at hz
  simp only [DataW.agg.injEq] at hz
  rw [cells30] at hl
  match v, hform with
  | .agg cs, hform =>
    simp only [Value.cells] at hl hel
    obtain ⟨l⟩ := cs
    match l, hl with
    | [c0, c1, c2], _ =>
      match xs, hz with
      | [y0, y1, y2], hz =>
        simp only [List.map_cons, List.map_nil, List.cons.injEq, and_true] at hz
        have gf : ∀ (i t o : Nat), (Ybad.prog.fieldsOf 30)[i]?.map (fun f => (f.type, f.offset)) = some (t, o) → DataW.trod enc Ybad.prog W base sp held m t (([c0, c1, c2].drop o).take (Ybad.prog.cellsOf t)) = [y0, y1, y2][i]? := by
          intro i t o hf
          cases hfi : (Ybad.prog.fieldsOf 30)[i]? with
          | none => rw [hfi] at hf; cases hf
          | some f =>
            rw [hfi] at hf
            simp only [Option.map_some, Option.some.injEq, Prod.mk.injEq] at hf
            have := hel i f hfi
            rw [hf.1, hf.2] at this
            exact this
        have g0 := gf 0 9 0 f0
        have g1 := gf 1 27 1 f1
        have g2 := gf 2 24 2 f2
        rw [cells9] at g0
        rw [cells27] at g1
        rw [cells24] at g2
        obtain ⟨s, e0, _⟩ := DataW.trod_string Ybad.underlying9 (show DataW.trod enc Ybad.prog W base sp held m 9 [c0] = some y0 from g0)
        obtain ⟨q', e1, e1', _⟩ := DataW.trod_int Ybad.underlying27 (show DataW.trod enc Ybad.prog W base sp held m 27 [c1] = some y1 from g1)
        obtain ⟨g', e2, e2', _⟩ := DataW.trod_int Ybad.underlying24 (show DataW.trod enc Ybad.prog W base sp held m 24 [c2] = some y2 from g2)
        simp only [List.cons.injEq, and_true] at e0 e1 e2
        have hq : q' = q := by have := hz.2.1; rw [e1'] at this; simpa using this
        have hg : g' = g := by have := hz.2.2; rw [e2'] at this; simpa using this
        subst hq hg e0 e1 e2
        exact ⟨s, rfl⟩

/-- What the condition gives the walk. -/
theorem of_laid {W : World} (h : laidMetH Ybad.prog Rows.lawS6772AWholeRow.laid W) : ∃ bm es clock, W.cell? ⟨0, 0, none⟩ = some (.map (some bm)) ∧ W.heap[bm]? = some (.map es clock) ∧ Tab es clock := by
  rw [MakeChecks.laidMetH_plain _ _ _ (by kernel_rfl)] at h
  obtain ⟨ps, ⟨g0, t0, cs0, f0, p0, q0, hg0, ht0, hv0, hd0, _⟩, _, _⟩ := h
  obtain rfl := Option.some.inj (gAlgs.symm.trans hg0)
  obtain rfl := Option.some.inj (tAlgs.symm.trans ht0)
  rcases open_map Ybad.underlying29 hd0 with ⟨_, hx⟩ | ⟨bm, es, clock, m, rfl, hcs, hb, _, F, hx⟩
  · simp [Rows.laid_example_com_quote_to_verdict_quote_to_verdict_internal_tpm_algs] at hx
  simp only [Prod.mk.injEq] at hx
  have hcell : W.cell? ⟨0, 0, none⟩ = some (.map (some bm)) := by
    have := World.var?_cell hg0 hv0 0
    rw [Array.eq_one_of_toList hcs] at this
    simpa using this
  have hent := congrArg entriesOf hx.1
  simp only [entriesOf] at hent
  refine ⟨bm, es, clock, hcell, hb, F.stamped.1, F.stamped.2.1, fun x hx1 => ?_, fun k q hkq => ?_⟩
  · obtain ⟨y, hy⟩ := F.reads x hx1
    have hyin : y ∈ entriesOf (Rows.laid_example_com_quote_to_verdict_quote_to_verdict_internal_tpm_algs (H := Unit)) := by
      show y ∈ _
      rw [show entriesOf (Rows.laid_example_com_quote_to_verdict_quote_to_verdict_internal_tpm_algs (H := Unit)) = _ from hent, mem_sorted]
      exact List.mem_map.2 ⟨x, hx1, rg_of hy⟩
    obtain ⟨k, q, g, bs, rfl, hin⟩ := datum_shape y hyin
    obtain ⟨z, hz, hz1⟩ := rd_val hy
    obtain ⟨s, hv⟩ := val_of hz hz1.symm
    refine ⟨k, q, g, s, ?_, hv, hin⟩
    have hk := rd_key hy
    rw [keyOf_int Ybad.underlying24] at hk
    unfold mapKey at hk
    rw [Ybad.underlying24] at hk
    cases hkv : x.key with
    | int q' n =>
      rw [hkv] at hk
      simp only at hk
      split at hk
      · rename_i hc
        simp only [Option.some.injEq, Lit.int.injEq] at hk
        rw [hc.1, hk.2]
      · cases hk
    | _ => rw [hkv] at hk; simp at hk
  · obtain ⟨g, bs, hin⟩ := datum_all (H := Unit) k q hkq
    rw [show entriesOf (Rows.laid_example_com_quote_to_verdict_quote_to_verdict_internal_tpm_algs (H := Unit)) = _ from hent, mem_sorted] at hin
    obtain ⟨x, hx1, hxe⟩ := List.mem_map.1 hin
    obtain ⟨y, hy⟩ := F.reads x hx1
    rw [rg_of hy] at hxe
    subst hxe
    obtain ⟨z, hz, hz1⟩ := rd_val hy
    obtain ⟨s, hv⟩ := val_of hz hz1.symm
    exact ⟨x, hx1, g, s, hv⟩

/-- The door's own heap meets the condition. -/
theorem door_met (os : Os) (args : Array Value) : laidMetH Ybad.prog Rows.lawS6772AWholeRow.laid ((World.doorLaid Ybad.prog 122 os).forCall (fun _ _ => 0) ⟨#[], args, []⟩).memory :=
  laidMetH_of_parts3 (fuel := 8) (laidMet_of_run' 8 (by kernel_rfl) (by kernel_rfl)) (by kernel_rfl) (by kernel_rfl)

set_option maxRecDepth 100000 in
theorem lifted (os : Os) (started : os.Started) (H : Type) (enc : TypeId × Value → H) :
    ReturnsInHanded {} Ybad.checked os 3 .any (fun w args => (Rows.lawS6772AWholeSpec.pre enc Ybad.prog Ybad.f3 [] false w args ∧ laidMetH Ybad.prog Rows.lawS6772AWholeRow.laid w) ∧ sizedMet enc Ybad.prog Ybad.f3 (OpenSpec.ofChange Rows.lawS6772AWholeSpec) false w args)
      (Rows.lawS6772AWholeSpec.post enc Ybad.prog Ybad.f3 false true false false) := by
  refine returnsInHanded_of_change_and (C := Ybad.checked) (X := fun w _ => laidMetH Ybad.prog Rows.lawS6772AWholeRow.laid w) (fun _ _ _ hh h => h.of_heap hh) own started (by kernel_rfl) Ybad.func3
    (ChangeSpec.witness_shaped (enc := enc) (C := Ybad.checked) (os := os) (X := fun w _ => laidMetH Ybad.prog Rows.lawS6772AWholeRow.laid w) false (World.doorLaid Ybad.prog 122 os) #[.int .u64 0] 8 rfl (World.shaped_of_RefB (by kernel_rfl) (by kernel_rfl)) (by kernel_rfl) (by kernel_rfl) (by kernel_rfl) (door_met os _)) ?_
  intro W base args ds gs before hval0 hW _ _ hL _
  have hval : ∀ (j : Nat) t v, Ybad.f3.params[j]? = some t → args[j]? = some v → Value.okWide Ybad.prog W .any base t v := hval0
  have hW' := hW
  obtain ⟨p, q, hA0, hV0, rfl, hfz, hnd⟩ := hW
  have hA : DataW.TrodAll enc Ybad.prog W 0 (fun _ => true) true Ybad.f3.params.toList args.toList ds p := hA0
  have hV : DataW.TrodVars enc Ybad.prog W (fun _ => true) [(Rows.lawS6772AWholeRow.laid.map (·.1)).head!] gs q := hV0
  rw [Ybad.params3] at hA hval
  obtain ⟨v0, d0, rfl, rfl, h0⟩ := trodAll_one hA
  obtain ⟨g, t, cs, fuel, d, p', rfl, hg, ht, hvar, hd, rfl⟩ := trodVars_one hV
  obtain rfl := Option.some.inj (gAlgs.symm.trans hg)
  obtain rfl := Option.some.inj (tAlgs.symm.trans ht)
  obtain ⟨n, rfl, rfl, rfl, wn⟩ := open_int Ybad.underlying22 (hval 0 22 v0 rfl rfl) h0
  obtain ⟨bm, es, clock, hcell, hmap, hT⟩ := of_laid hL
  have hc0 := World.var?_cell hg hvar 0
  rw [hcell] at hc0
  have hcs : cs = #[.map (some bm)] := by
    rcases open_map Ybad.underlying29 hd with ⟨h1, _⟩ | ⟨b', es', clock', m, _, h1, _⟩
    · rw [Array.eq_one_of_toList h1] at hc0; simp at hc0
    · rw [Array.eq_one_of_toList h1] at hc0 ⊢
      simp at hc0
      rw [hc0]
  subst hcs
  have h0lt : 0 < W.heap.size := by
    rcases Nat.eq_zero_or_pos W.heap.size with h0 | h
    · simp [World.cell?, h0] at hcell
    · exact h
  have hltv : ∀ x ∈ p', x.block < W.heap.size := fun x hx => hW'.lt x (List.mem_append_right _ (List.mem_append_right _ hx))
  clear hA0 hval0 hV0 hA hV
  refine (law_any n bm es clock W hT hcell hmap).mono fun e W' ⟨he, hB⟩ => ?_
  subst he
  obtain ⟨fuel', hd'⟩ := Below.trod laidOut (by kernel_rfl) (of_decide_eq_true (by kernel_rfl)) (v := .map (some bm)) (⟨fuel, by simpa [Value.cells] using hd⟩ : DataW.Trod enc Ybad.prog W 0 (fun _ => true) true 29 (.map (some bm)) d p') hB hltv
  have hv' := trodVars_mk1 (enc := enc) (spare := fun b => decide (b < W.heap.size)) hg ht (var?_below hB hg h0lt hvar) (by simpa [Value.cells] using hd')
  refine ⟨_, rfl, _, _, _, [], [], (MemPlace.row ⟨0, 0, none⟩ (#[.map (some bm)] : Array Value).size ++ p'), hW', trodAll_mk1 (shut_bool Ybad.underlying4 _), trodAll_mk1 (shut_int Ybad.underlying22 wn), hv', hB.frame _, fun h => by cases h⟩

theorem row_holds : Rows.LawS6772AWholeSaid :=
  OpenClaim.holds_of_wide 3 Ybad.f3 rfl rfl rfl rfl rfl rfl rfl ⟨rfl, rfl, rfl, rfl, rfl⟩ rfl rfl rfl rfl rfl (by kernel_rfl) Ybad.func3 (by kernel_rfl)
    (of_decide_eq_true (by kernel_rfl)) (by unfold Func.isWrapper; first | (rw [if_pos (by decide +kernel)]; kernel_rfl) | (rw [if_neg (by decide +kernel)]; exact ⟨rfl, rfl⟩))
    (fun os started H enc _ => lifted os started H enc)

/-- The tied card. -/
theorem card_holds : Rows.LawS6772AWholeCardSaid :=
  Claim7.holds_tied_plain_at .later [] [.mapped] true (true, "c18162294041b5698cf29238c6e227f1d0a9d7f73a37fd91d813e16f595aeaa3") false
    row_holds (fun _ h => by cases h) (by kernel_rfl) (fun _ h => by cases h) lawS6772AWhole_row_tie rfl ⟨rfl, rfl⟩ (by kernel_rfl) rfl
    (fun f fn hf hfn => by
      obtain rfl : f = 3 := Option.some.inj ((show Ybad.prog.funcNamed Rows.lawS6772AWholeRow.func = some 3 by kernel_rfl).symm.trans hf) |>.symm
      obtain rfl : fn = Ybad.f3 := (Option.some.inj (Ybad.func3.symm.trans hfn)).symm
      exact ⟨by kernel_rfl, fun j t ht => by
        rw [Ybad.params3] at ht
        have hm : t ∈ [22] := by simpa using Array.mem_of_getElem? ht
        have hall : ([22].all fun u => !Ybad.prog.wantsStandIn u) = true := by kernel_rfl
        exact (show Ybad.prog.wantsStandIn t = false by simpa using List.all_eq_true.1 hall t hm)⟩)
    (by kernel_rfl)
end Go.Proofs.YbulkejfmDoor
