/- From the row's hypotheses to the walk; the told and tied card closed. -/
import Derived.Test.YbulkejacFmtMain
import Derived.Test.YbulkejacFmtOpen
import Derived.Test.YbulkejacFmtCards
import Derived.Test.YbulkejacFmtTie
import Derived.ProofKit
import Derived.LaidMore
import Derived.OpenShut
import Derived.ShutString
import Derived.WalkSmall
import Derived.ChangeVars
import Derived.ChangeMaps5
import Derived.RowKitTokens
import Derived.Stop.JoinedAt
import Derived.Stop.JoinedTold
import Derived.Stop.LaidErr
import Derived.Deep.DeepWitnessRef
import Derived.SevenTiedAt
namespace Go.Proofs.YbulkejacFmt
open Go.ChangeShapes Go.WideShapes Go.ChangeAt Go.RowKit Go.Kit
open Go.ChangeMaps (open_string shut_string)
open Go.Extern.Stop Go.Stop Go.Extern
set_option linter.unusedVariables false

theorem own : ownKnob Ybaf.prog.godebug = none := by kernel_rfl
theorem laidOut : laidOutB Ybaf.pinned.checked.prog = true := by kernel_rfl
theorem stopsAre : Ybaf.pinned.checked.prog.stops = ["fmt.errorf"] := by kernel_rfl
theorem stopKnobsAre : Ybaf.pinned.checked.prog.stopKnobs = [] := by kernel_rfl
theorem quietAt (os : Os) : Stop.quiet Ybaf.pinned.checked.prog os := by
  intro k hk
  rw [stopKnobsAre] at hk
  cases hk
theorem gN : Ybaf.prog.globalNamed (Rows.lawS6762BWholeRow.laid.map (·.1)).head! = some 0 := by kernel_rfl
theorem gNType : (Ybaf.prog.globals[0]?).map (·.type) = some 55 := by kernel_rfl
theorem cells84 : Ybaf.prog.cellsOf 84 = 1 := by kernel_rfl
set_option maxRecDepth 100000 in
theorem row82 (u : TypeId) (h : Ybaf.prog.typeName? 3 u = some Ybaf.errName) : u = 82 := by
  refine typeName_ptr_named (P := Ybaf.prog) (nm := "errors.errorString") ?_ (by kernel_rfl) (by decide) u ?_
  · kernel_rfl
  · rw [h]; exact congrArg some (by kernel_rfl)

theorem door_met (os : Os) (args : Array Value) : laidMetH Ybaf.prog Rows.lawS6762BWholeRow.laid ((World.doorLaid Ybaf.prog 28 os).forCall (fun _ _ => 0) ⟨#[], args, []⟩).memory :=
  laidMetH_of_parts3 (fuel := 8) (laidMet_of_run' 8 (by kernel_rfl) (by kernel_rfl)) (by kernel_rfl) (by kernel_rfl)

set_option maxRecDepth 100000 in
theorem lifted (os : Os) (started : os.Started) (H : Type) (enc : TypeId × Value → H) :
    ReturnsInTold none {} Ybaf.checked os 3 .any Input.okWide ((OpenSpec.ofChange Rows.lawS6762BWholeSpec).preRow enc Ybaf.prog Ybaf.f3 [] false Rows.lawS6762BWholeRow.laid) (fun F => ((OpenSpec.ofChange Rows.lawS6762BWholeSpec).at F).post enc Ybaf.prog Ybaf.f3 false true false false) (aloneAtReturn Ybaf.prog) nothingAlways := by
  refine returnsInTold_of_row (C := Ybaf.checked) (s := OpenSpec.ofChange Rows.lawS6762BWholeSpec) (by kernel_rfl) own started (by kernel_rfl) Ybaf.func3
    (OpenSpec.witness_stopped_atRef (enc := enc) (C := Ybaf.checked) false (World.doorLaid Ybaf.prog 28 os) #[.slice none 0 0, .int .u8 0, .string ⟨#[]⟩] rfl (by kernel_rfl) (by kernel_rfl) (by kernel_rfl)
      (OpenSpec.preRow_of_B rfl 8 (by kernel_rfl) (by kernel_rfl) (door_met os _))) ?_
  intro F W base args ds gs before _ hF hval0 hW _ _ hsz hL _
  have hval : ∀ (j : Nat) t v, Ybaf.f3.params[j]? = some t → args[j]? = some v → Value.okWide Ybaf.prog W .any base t v := hval0
  have hW' := hW
  obtain ⟨p, q, hA0, hV0, rfl, hfz, hnd⟩ := hW
  have hA : DataW.TrodAll enc Ybaf.prog W 0 (fun _ => true) true Ybaf.f3.params.toList args.toList ds p := hA0
  have hV : DataW.TrodVars enc Ybaf.prog W (fun _ => true) [(Rows.lawS6762BWholeRow.laid.map (·.1)).head!] gs q := hV0
  rw [Ybaf.params3] at hA hval
  obtain ⟨v0, vs0, d0, ds0, p0, q0, hargs, rfl, rfl, h0, r0⟩ := trodAll_cons hA
  obtain ⟨v1, vs1, d1, ds1, p1, q1, rfl, rfl, rfl, h1, r1⟩ := trodAll_cons r0
  obtain ⟨v2, vs2, d2, ds2, p2, q2, rfl, rfl, rfl, h2, r2⟩ := trodAll_cons r1
  obtain ⟨rfl, rfl, rfl⟩ := trodAll_nil r2
  obtain rfl : args = #[v0, v1, v2] := by cases args; simp_all
  have hw : ∀ m ∈ d0.weights Ybaf.prog 22, m ≤ reachBytes := fun m hm => by
    have := List.all_eq_true.1 hsz m (DataW.weights_mem_each (j := 0) rfl rfl m hm)
    simpa using this
  obtain ⟨a0, len0, cap0, rfl⟩ := okWide_slice Ybaf.underlying22 (hval 0 22 v0 rfl rfl)
  have k0 := h0
  have lt0 : ∀ x ∈ p0, x.block < W.heap.size := by obtain ⟨m, hm⟩ := k0; exact DataW.trod_lt m _ _ _ hm
  obtain ⟨es, w0, hl0, hn0, hbs⟩ : ∃ es, EntRow W a0 es ∧ es.length = len0 ∧ len0 ≤ 4398046511104 ∧ ∀ e ∈ es, ∀ x ∈ e.bs, x.id.size ≤ 140737488351232 := by
    obtain ⟨fuel, hf⟩ := h0
    exact opened hf hw
  obtain ⟨a1, rfl, rfl, rfl, w1⟩ := open_int Ybaf.underlying5 (hval 1 5 v1 rfl rfl) h1
  obtain ⟨id, rfl, rfl, rfl, wid⟩ := open_string Ybaf.underlying9 (hval 2 9 v2 rfl rfl) h2
  have hL1 : laidMet Ybaf.prog Rows.lawS6762BWholeRow.laid W := by
    rw [← MakeChecks.laidMetH_plain _ _ _ (by kernel_rfl)]; exact hL
  obtain ⟨a, s, hv, hc, hs, hz⟩ := laid_sentinel (g := 0) hL1 gN gNType Ybaf.underlying55 row82 Ybaf.underlying82 Ybaf.underlying84 rfl rfl Ybaf.underlying9 cells84 cells9
  obtain ⟨rfl, rfl⟩ := hV.unique (vars_read1 enc gN gNType Ybaf.underlying55 hv trivial _)
  clear hA0 hV0 hval0
  have hg0 : W.cell? ⟨0, 0, none⟩ = some (.iface 82 (.pointer (some a))) := by simpa using World.var?_cell gN hv 0
  have h0lt : 0 < W.heap.size := World.block_lt_of_cell? _ _ hg0
  have hb := bounds_u8 w1
  refine (walk_main F.told a0 len0 cap0 es a1 id a s W hF hg0 hc w0 hl0 hn0 hbs wid hb.1 hb.2).mono fun e W' ⟨he, bel⟩ => ?_
  subst he
  refine ⟨_, rfl, _, _, _, [], _, _, hW', trodAll_mk1 (shut_bool Ybaf.underlying4 _), (trodAll_cons_mk (Below.trod laidOut (by kernel_rfl) (of_decide_eq_true (by kernel_rfl)) k0 bel lt0) (trodAll_cons_mk (shut_int Ybaf.underlying5 w1) (trodAll_cons_mk (shut_string Ybaf.underlying9 wid) trodAll_mk0))), vars_read1 enc gN gNType Ybaf.underlying55 (var?_below bel gN h0lt hv) trivial _, bel.frame _, fun h => by cases h⟩

/-- The told and tied card. -/
theorem card_holds : Rows.LawS6762BWholeToldSaid :=
  Claim7.holds_of_told_tied_any_at .later 3 Ybaf.f3 "fmt.errorf" [] [] (true, "cb5434ffcaa4b15520b9b3594ae8b9d6deaa40a76faf1ee09d17b411c18d8a27") true false [.sentinel] true (by kernel_rfl) rfl rfl rfl laidOut (by kernel_rfl) rfl ⟨rfl, rfl, rfl, rfl, rfl, rfl, rfl⟩ rfl rfl (by kernel_rfl) (by kernel_rfl) Ybaf.func3 (by kernel_rfl)
    (of_decide_eq_true (by kernel_rfl)) (by unfold Func.isWrapper; first | (rw [if_pos (by decide +kernel)]; kernel_rfl) | (rw [if_neg (by decide +kernel)]; exact ⟨rfl, rfl⟩)) stopsAre.symm rfl stopKnobsAre.symm (by kernel_rfl)
    (by kernel_rfl) (by kernel_rfl) (by kernel_rfl) (by kernel_rfl) (by kernel_rfl) (by kernel_rfl) (by kernel_rfl) (by kernel_rfl) (by kernel_rfl) rfl (by kernel_rfl) rfl rfl
    rfl rfl
    rfl (by kernel_rfl) (by kernel_rfl) (by kernel_rfl) (by decide) (by kernel_rfl) lawS6762BWhole_row_tie
    (OpenClaim.moreEntering_of (by kernel_rfl) (by kernel_rfl) (by kernel_rfl) (by kernel_rfl) (by kernel_rfl) (by kernel_rfl) (by kernel_rfl) (by kernel_rfl) (by kernel_rfl) (by kernel_rfl))
    ⟨_, WideRow.started_initial, quietAt _⟩
    (fun os started _ H enc _ => lifted os started H enc)
end Go.Proofs.YbulkejacFmt
