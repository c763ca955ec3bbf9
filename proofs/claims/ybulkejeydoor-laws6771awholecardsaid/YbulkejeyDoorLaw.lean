/- The row, and the tied card closed. -/
import Derived.Test.YbulkejeyDoorMain
import Derived.Test.YbulkejeyDoorOpen
import Derived.Test.YbulkejeyDoorCards
import Derived.Test.YbulkejeyDoorTie
import Derived.ShutString
import Derived.ChangeOld
import Derived.SevenTiedAt
namespace Go.Proofs.YbulkejeyDoor
open Go.ChangeShapes Go.WideShapes Go.ChangeAt Go.RowKit
open Go.ChangeMaps (open_string shut_string)
set_option linter.unusedVariables false

set_option maxRecDepth 100000 in
theorem walk (mcc mnc : ByteArray) (group code : Int) (mt ad : Option Addr) (nm na cm ca : Nat) (zs : List Int) (A : Nat → Nat → Int) (z : Option Addr) (mu au : Int) (w : World)
    (hzl : zs.length = nm) (hM : RowM w mt zs) (hA : RowA w ad na A) (hm : nm ≤ 9223372036854775807) (ha : na ≤ 9223372036854775807) (hz : w.cell? ⟨0, 0, none⟩ = some (.pointer z)) (hu : 0 ≤ mu ∧ mu ≤ 18446744073709551615) (hv : 0 ≤ au ∧ au ≤ 18446744073709551615) :
    Calls Ybad.prog 3 #[.string mcc, .string mnc, .int .u16 group, .int .u8 code, .slice mt nm cm, .slice ad na ca, .int .u64 mu, .int .u64 au] w fun e w' => e = .returned (.bool true) ∧ Below w.heap.size w w' := by
  by_cases h1 : nm ≤ 1048576
  · by_cases h2 : na ≤ 1048576
    · exact walk_main mcc mnc group code mt ad nm na cm ca zs A z mu au w h1 h2 hzl hM hA hz hu.1 (by omega) hv.1 (by omega)
    · have h3 : decide ((1048576 : Int) < (nm : Int)) = false := by simp; omega
      have h4 : (1048576 : Int) < (na : Int) := by omega
      clear hM hA
      go_enter Ybad.func3, Ybad.ntmps3
      go_wp2
      go_ret
      exact ⟨rfl, Below.refl _ _⟩
  · have h4 : (1048576 : Int) < (nm : Int) := by omega
    clear hM hA
    go_enter Ybad.func3, Ybad.ntmps3
    go_wp2
    all_goals (go_ret; exact ⟨rfl, Below.refl _ _⟩)

/-- A start that meets the condition: the settled world, a block for what the handle points to, the variable's cell laid. (The door's own heap does not serve as a start here: its run also fills a table of the model's own.) -/
theorem door_met (os : Os) (args : Array Value) : laidMetH Ybad.prog Rows.lawS6771AWholeRow.laid (((World.holding Ybad.prog os ⟨#[.cells #[.bool false, .string { data := #[] }] (Ybad.prog.pointee 31)], #[], []⟩).setCell ⟨0, 0, none⟩ (.pointer (some ⟨(World.holding Ybad.prog default ⟨#[], #[], []⟩).heap.size, 0, none⟩))).forCall (fun _ _ => 0) ⟨#[], args, []⟩).memory :=
  laidMetH_of_parts3 (fuel := 8) (laidMet_of_run' 8 (by kernel_rfl) (by kernel_rfl)) (by kernel_rfl) (by kernel_rfl)

set_option maxRecDepth 100000 in
theorem lifted (os : Os) (started : os.Started) (H : Type) (enc : TypeId × Value → H) :
    ReturnsInHanded {} Ybad.checked os 3 .any (fun w args => (Rows.lawS6771AWholeSpec.pre enc Ybad.prog Ybad.f3 [] false w args ∧ laidMetH Ybad.prog Rows.lawS6771AWholeRow.laid w) ∧ sizedMet enc Ybad.prog Ybad.f3 (OpenSpec.ofChange Rows.lawS6771AWholeSpec) false w args)
      (Rows.lawS6771AWholeSpec.post enc Ybad.prog Ybad.f3 false true false false) := by
  refine returnsInHanded_of_change_and (C := Ybad.checked) (X := fun w _ => laidMetH Ybad.prog Rows.lawS6771AWholeRow.laid w) (fun _ _ _ hh h => h.of_heap hh) own started (by kernel_rfl) Ybad.func3
    (ChangeSpec.witness_shaped (enc := enc) (C := Ybad.checked) (os := os) (X := fun w _ => laidMetH Ybad.prog Rows.lawS6771AWholeRow.laid w) false ((World.holding Ybad.prog os ⟨#[.cells #[.bool false, .string { data := #[] }] (Ybad.prog.pointee 31)], #[], []⟩).setCell ⟨0, 0, none⟩ (.pointer (some ⟨(World.holding Ybad.prog default ⟨#[], #[], []⟩).heap.size, 0, none⟩))) #[.string { data := #[] }, .string { data := #[] }, .int .u16 0, .int .u8 0, .slice none 0 0, .slice none 0 0, .int .u64 0, .int .u64 0] 8 rfl (World.shaped_of_RefB (by kernel_rfl) (by kernel_rfl)) (by kernel_rfl) (by kernel_rfl) (by kernel_rfl) (door_met os _)) ?_
  intro W base args ds gs before hval0 hW _ _ hL _
  have hval : ∀ (j : Nat) t v, Ybad.f3.params[j]? = some t → args[j]? = some v → Value.okWide Ybad.prog W .any base t v := hval0
  have hW' := hW
  obtain ⟨p, q, hA0, hV, rfl, hfz, hnd⟩ := hW
  have hA : DataW.TrodAll enc Ybad.prog W 0 (fun _ => true) true Ybad.f3.params.toList args.toList ds p := hA0
  rw [Ybad.params3] at hA hval
  obtain ⟨v0, vs0, d0, ds0, p0, q0, hargs, rfl, rfl, h0, r0⟩ := trodAll_cons hA
  obtain ⟨v1, vs1, d1, ds1, p1, q1, rfl, rfl, rfl, h1, r1⟩ := trodAll_cons r0
  obtain ⟨v2, vs2, d2, ds2, p2, q2, rfl, rfl, rfl, h2, r2⟩ := trodAll_cons r1
  obtain ⟨v3, vs3, d3, ds3, p3, q3, rfl, rfl, rfl, h3, r3⟩ := trodAll_cons r2
  obtain ⟨v4, vs4, d4, ds4, p4, q4, rfl, rfl, rfl, h4, r4⟩ := trodAll_cons r3
  obtain ⟨v5, vs5, d5, ds5, p5, q5, rfl, rfl, rfl, h5, r5⟩ := trodAll_cons r4
  obtain ⟨v6, vs6, d6, ds6, p6, q6, rfl, rfl, rfl, h6, r6⟩ := trodAll_cons r5
  obtain ⟨v7, vs7, d7, ds7, p7, q7, rfl, rfl, rfl, h7, r7⟩ := trodAll_cons r6
  obtain ⟨rfl, rfl, rfl⟩ := trodAll_nil r7
  obtain rfl : args = #[v0, v1, v2, v3, v4, v5, v6, v7] := by cases args; simp_all
  obtain ⟨rfl, rfl⟩ := trodVars_none hV
  obtain ⟨z, hz⟩ := of_laid hL
  obtain ⟨s0, rfl, rfl, rfl, w0⟩ := open_string Ybad.underlying9 (hval 0 9 v0 rfl rfl) h0
  obtain ⟨s1, rfl, rfl, rfl, w1⟩ := open_string Ybad.underlying9 (hval 1 9 v1 rfl rfl) h1
  obtain ⟨a2, rfl, rfl, rfl, w2⟩ := open_int Ybad.underlying22 (hval 2 22 v2 rfl rfl) h2
  obtain ⟨a3, rfl, rfl, rfl, w3⟩ := open_int Ybad.underlying5 (hval 3 5 v3 rfl rfl) h3
  obtain ⟨a4, len4, cap4, rfl⟩ := okWide_slice Ybad.underlying23 (hval 4 23 v4 rfl rfl)
  have k4 := h4
  have lt4 : ∀ x ∈ p4, x.block < W.heap.size := by obtain ⟨m, hm⟩ := k4; exact DataW.trod_lt m _ _ _ hm
  obtain ⟨zs, hzl, hM, hmax⟩ : ∃ zs, zs.length = len4 ∧ RowM W a4 zs ∧ len4 ≤ 9223372036854775807 := by
    obtain ⟨fuel, hf⟩ := h4
    rcases open_ints Ybad.underlying23 Ybad.underlying26 (by kernel_rfl) hf with ⟨hcs, _⟩ | ⟨x, l, c, zs, hcs, _, hl, hm, hz4, _, hcell, hwz⟩
    · simp [Value.cells] at hcs
      obtain ⟨rfl, rfl, rfl⟩ := hcs
      exact ⟨[], rfl, .inl rfl, by omega⟩
    · simp [Value.cells] at hcs
      obtain ⟨rfl, rfl, rfl⟩ := hcs
      unfold maxLen at hm
      simp only [if_true] at hz4
      refine ⟨zs.take len4, by simp; omega, ?_, by omega⟩
      by_cases h0 : len4 = 0
      · exact .inl (by simp [h0])
      · obtain ⟨b, off, sp⟩ := x
        have h00 := hcell 0 (by omega)
        obtain rfl : sp = none := by
          cases sp with
          | none => rfl
          | some y => exact absurd h00 (by simp [Addr.add, World.cell?]; split <;> simp)
        refine .inr ⟨b, off, rfl, ?_, fun i hi => ?_⟩
        · rcases Nat.lt_or_ge b W.heap.size with h | h
          · exact h
          · simp [World.cell?, Addr.add, Array.getElem?_eq_none h] at h00
        · have hlt : i < len4 := by simp at hi; omega
          have h := hcell i (by omega)
          rw [Addr.add_lit] at h
          rw [h]
          simp [List.getD, hlt]
  obtain ⟨a5, len5, cap5, rfl⟩ := okWide_slice Ybad.underlying24 (hval 5 24 v5 rfl rfl)
  have k5 := h5
  have lt5 : ∀ x ∈ p5, x.block < W.heap.size := by obtain ⟨m, hm⟩ := k5; exact DataW.trod_lt m _ _ _ hm
  obtain ⟨A, hA4⟩ := open_quads h5
  have hmax5 : len5 ≤ 9223372036854775807 := by
    obtain ⟨fuel, hf⟩ := h5
    rcases Deep.open_slice Ybad.underlying24 hf with ⟨hcs, _⟩ | ⟨a, len, cap', m, k, D, Pl, hcs, _, hl, hm, _⟩
    · simp [Value.cells] at hcs
      omega
    · simp [Value.cells] at hcs
      unfold maxLen at hm
      omega
  obtain ⟨a6, rfl, rfl, rfl, w6⟩ := open_int Ybad.underlying25 (hval 6 25 v6 rfl rfl) h6
  obtain ⟨a7, rfl, rfl, rfl, w7⟩ := open_int Ybad.underlying25 (hval 7 25 v7 rfl rfl) h7
  clear hA0 hval0
  refine (walk s0 s1 a2 a3 a4 a5 len4 len5 cap4 cap5 zs A z a6 a7 W hzl hM hA4 hmax hmax5 hz (bounds_u64 w6) (bounds_u64 w7)).mono fun e W' ⟨he, bel⟩ => ?_
  subst he
  exact ⟨_, rfl, _, _, _, [], _, [], hW', trodAll_mk1 (shut_bool Ybad.underlying4 _), (trodAll_cons_mk (shut_string Ybad.underlying9 w0) (trodAll_cons_mk (shut_string Ybad.underlying9 w1) (trodAll_cons_mk (shut_int Ybad.underlying22 w2) (trodAll_cons_mk (shut_int Ybad.underlying5 w3) (trodAll_cons_mk (Below.trod laidOut (by kernel_rfl) (of_decide_eq_true (by kernel_rfl)) k4 bel lt4) (trodAll_cons_mk (Below.trod laidOut (by kernel_rfl) (of_decide_eq_true (by kernel_rfl)) k5 bel lt5) (trodAll_cons_mk (shut_int Ybad.underlying25 w6) (trodAll_cons_mk (shut_int Ybad.underlying25 w7) trodAll_mk0)))))))), rfl, bel.frame _, fun h => by cases h⟩

theorem row_holds : Rows.LawS6771AWholeSaid :=
  OpenClaim.holds_of_wide 3 Ybad.f3 rfl rfl rfl rfl rfl rfl rfl ⟨rfl, rfl, rfl, rfl, rfl⟩ rfl rfl rfl rfl rfl (by kernel_rfl) Ybad.func3 (by kernel_rfl)
    (of_decide_eq_true (by kernel_rfl)) (by unfold Func.isWrapper; first | (rw [if_pos (by decide +kernel)]; kernel_rfl) | (rw [if_neg (by decide +kernel)]; exact ⟨rfl, rfl⟩))
    (fun os started H enc _ => lifted os started H enc)

/-- The tied card. -/
theorem card_holds : Rows.LawS6771AWholeCardSaid :=
  Claim7.holds_tied_plain_at .later [] [.called] true (true, "d54d6a46f425a51a64f69b3ceb158013ebaef7e1b2e2429f173344ce566962f9") false
    row_holds (fun _ h => by cases h) (by kernel_rfl) (fun _ h => by cases h) lawS6771AWhole_row_tie rfl ⟨rfl, rfl⟩ (by kernel_rfl) rfl
    (fun f fn hf hfn => by
      obtain rfl : f = 3 := Option.some.inj ((show Ybad.prog.funcNamed Rows.lawS6771AWholeRow.func = some 3 by kernel_rfl).symm.trans hf) |>.symm
      obtain rfl : fn = Ybad.f3 := (Option.some.inj (Ybad.func3.symm.trans hfn)).symm
      exact ⟨by kernel_rfl, fun j t ht => by
        rw [Ybad.params3] at ht
        have hm : t ∈ [9, 9, 22, 5, 23, 24, 25, 25] := by simpa using Array.mem_of_getElem? ht
        have hall : ([9, 9, 22, 5, 23, 24, 25, 25].all fun u => !Ybad.prog.wantsStandIn u) = true := by kernel_rfl
        exact (show Ybad.prog.wantsStandIn t = false by simpa using List.all_eq_true.1 hall t hm)⟩)
    (by kernel_rfl)
end Go.Proofs.YbulkejeyDoor
