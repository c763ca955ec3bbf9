/-
  The row's frame as the kit's skeleton tool wrote it for this function; the walk is filled (YbulkejfmMain has its main way).
-/
import Derived.Test.YbulkejfmMain
import Derived.WalkKit
import Derived.Deep.SlicePairs
import Derived.SizedLaws
import Derived.ProofKit
import Derived.OpenShut
import Derived.ShutString
import Derived.ChangeOld
import Derived.Below
namespace Go.Proofs.Ybulkejfm.lawS6772CWhole
open Go.ChangeShapes Go.WideShapes Go.ChangeAt Go.RowKit
open Go.ChangeMaps (open_string shut_string)
set_option linter.unusedVariables false

theorem own : ownKnob Yba.prog.godebug = none := by kernel_rfl
theorem laidOut : laidOutB Yba.prog = true := by kernel_rfl

theorem bytes26 : Yba.prog.bytesOf 26 = 32 := by kernel_rfl
theorem bytes3 : Yba.prog.bytesOf 3 = 8 := by kernel_rfl

theorem weightsAll_mem {H : Type} {P : Program} {e : TypeId} : ∀ {l : List (DataW H)} {d : DataW H}, d ∈ l → ∀ n ∈ d.weights P e, n ∈ DataW.weightsAll P e l
  | d' :: r, d, hd, n, hn => by
    simp only [DataW.weightsAll, List.mem_append]
    rcases List.mem_cons.1 hd with rfl | h
    · exact Or.inl hn
    · exact Or.inr (weightsAll_mem h n hn)

/-- An address behind which a cell lies is a plain one, in a block that is there. -/
theorem plain_addr {w : World} {a : Addr} {v : Value} (h : w.cell? (a.add 0) = some v) : ∃ b off, a = ⟨b, off, none⟩ ∧ b < w.heap.size := by
  obtain ⟨b, off, sp⟩ := a
  have hl : b < w.heap.size := by
    rcases Nat.lt_or_ge b w.heap.size with h1 | h1
    · exact h1
    · simp [World.cell?, Addr.add, Array.getElem?_eq_none h1] at h
  cases sp with
  | none => exact ⟨b, off, rfl, hl⟩
  | some y => exact absurd h (by simp [Addr.add, World.cell?]; split <;> simp)

/-- What the walk is told of the slice of selections that came in. -/
theorem opened {H : Type} {enc : TypeId × Value → H} {W : World} {fuel : Nat} {a0 : Option Addr} {len0 cap0 : Nat} {x : DataW H × List MemPlace}
    (h : DataW.trod enc Yba.prog W 0 (fun _ => true) true fuel 22 [.slice a0 len0 cap0] = some x) (hw : ∀ m ∈ x.1.weights Yba.prog 22, m ≤ reachBytes) :
    ∃ ss, SelRow W a0 ss ∧ ss.length = len0 ∧ len0 ≤ 4398046511104 ∧ (a0 = none → len0 = 0) ∧ ∀ s ∈ ss, s.ao = none → s.xs = [] := by
  rcases Deep.open_slice_pairs Yba.underlying22 Yba.underlying26 (by kernel_rfl) rfl rfl (by kernel_rfl) (by kernel_rfl) h with ⟨hcs, _⟩ | ⟨a, len, cap, m, nf, V0, V1, D0, D1, P0, P1, hcs, _, hl, _, hm, rfl, hx⟩
  · simp only [List.cons.injEq, Value.slice.injEq, and_true] at hcs
    obtain ⟨rfl, rfl, rfl⟩ := hcs
    exact ⟨[], ⟨fun s hs => (by cases hs), .inl rfl⟩, rfl, by omega, fun _ => rfl, fun s hs => by cases hs⟩
  · simp only [List.cons.injEq, Value.slice.injEq, and_true] at hcs
    obtain ⟨rfl, rfl, rfl⟩ := hcs
    simp only [if_true] at hm
    subst hm
    simp only [DataW.weights, Yba.underlying22, List.mem_cons, List.mem_append, bytes26, List.length_map, List.length_range] at hw
    have hn : len0 ≤ 4398046511104 := by
      have := hw _ (.inl rfl)
      unfold reachBytes at this
      omega
    have each : ∀ i, i < len0 → ∃ s : Sel, V0 i = .int .u16 s.hash ∧ V1 i = .slice s.ao s.xs.length s.cap ∧ Row W s.ao s.xs ∧ s.xs.length ≤ 17592186044416 ∧ (s.ao = none → s.xs = []) := by
      intro i hi
      obtain ⟨_, _, t0, t1⟩ := hx i (by omega)
      obtain ⟨z, hz, _, _⟩ := DataW.trod_int Yba.underlying23 t0
      simp only [List.cons.injEq, and_true] at hz
      have hwi : ∀ m ∈ (D1 i).weights Yba.prog 24, m ≤ reachBytes := fun m hmm => hw m (.inr (.inl (weightsAll_mem (d := .agg [D0 i, D1 i]) (List.mem_map.2 ⟨i, List.mem_range.2 hi, rfl⟩) m (by
        simp only [DataW.weights, Yba.underlying26]
        exact DataW.weights_mem_each (j := 1) rfl rfl m hmm))))
      rcases open_ints Yba.underlying24 Yba.underlying3 (by kernel_rfl) t1 with ⟨hcs, _⟩ | ⟨y, l, c, zs, hcs, _, hl2, _, hz2, hd, hcell, _⟩
      · simp only [List.cons.injEq, and_true] at hcs
        exact ⟨⟨z, none, 0, []⟩, hz, hcs, .inl rfl, by simp, fun _ => rfl⟩
      · simp only [List.cons.injEq, and_true] at hcs
        simp only [if_true] at hz2
        have hlt : (zs.take l).length = l := by simp; omega
        refine ⟨⟨z, some y, c, zs.take l⟩, hz, by simp only [hlt]; exact hcs, ?_, ?_, fun h => by cases h⟩
        · by_cases h0 : l = 0
          · exact .inl (by simp [h0])
          · obtain ⟨b, off, rfl, hb⟩ := plain_addr (hcell 0 (by omega))
            refine .inr ⟨b, off, rfl, hb, fun j hj => ?_⟩
            have hjl : j < l := by simpa [hlt] using hj
            have h := hcell j (by omega)
            rw [Addr.add_lit] at h
            rw [h]
            simp [List.getD, hjl]
        · simp only [hlt]
          rw [(Prod.mk.inj hd).1] at hwi
          simp only [DataW.weights, Yba.underlying24, List.mem_cons, List.mem_append, bytes3] at hwi
          have := hwi _ (.inl rfl)
          unfold reachBytes at this
          have h3 : (lits .i64 (zs.take l) : List (DataW H)).length + (lits .i64 (zs.drop l) : List (DataW H)).length = zs.length := by simp [lits]; omega
          omega
    haveI : Inhabited Sel := ⟨noSel⟩
    obtain ⟨q, hq⟩ := Deep.choose_lt each
    have hget : ∀ i, i < len0 → ((List.range len0).map q).getD i noSel = q i := fun i hi => by simp [List.getD, hi]
    refine ⟨(List.range len0).map q, ⟨fun s hs => ?_, ?_⟩, by simp, hn, fun h => (by cases h), fun s hs => ?_⟩
    · obtain ⟨i, hi, rfl⟩ := List.mem_map.1 hs
      have := hq i (List.mem_range.1 hi)
      exact ⟨this.2.2.1, this.2.2.2.1⟩
    · by_cases h0 : len0 = 0
      · exact .inl (by simp [h0])
      · obtain ⟨c0, _, _, _⟩ := hx 0 (by omega)
        rw [Nat.zero_mul] at c0
        obtain ⟨b, off, rfl, hb⟩ := plain_addr c0
        refine .inr ⟨b, off, rfl, hb, fun i hi => ?_⟩
        have hil : i < len0 := by simpa using hi
        obtain ⟨c0, c1, _, _⟩ := hx i (by omega)
        obtain ⟨e0, e1, _⟩ := hq i hil
        rw [hget i hil, ← e0, ← e1]
        rw [Addr.add_lit] at c0 c1
        exact ⟨c0, c1⟩
    · obtain ⟨i, hi, rfl⟩ := List.mem_map.1 hs
      exact (hq i (List.mem_range.1 hi)).2.2.2.2

/-! ### THE ROW's STEP: WRITTEN OUT: LEAVE IT -/
set_option maxRecDepth 100000 in
theorem lifted (os : Os) (started : os.Started) (H : Type) (enc : TypeId × Value → H) :
    ReturnsInHanded {} Yba.checked os 3 .any (Rows.lawS6772CWholeSpec.pre6 enc Yba.prog Yba.f3 Rows.lawS6772CWholeRow.domain false) (Rows.lawS6772CWholeSpec.post enc Yba.prog Yba.f3 false true false false) := by
  refine returnsInHanded_of_change_sized (C := Yba.checked) own started (by kernel_rfl) Yba.func3
    (ChangeSpec.witness6 (enc := enc) (C := Yba.checked) false ⟨#[], #[.slice none 0 0, .int .u16 0, .int .i64 0], []⟩ 8 (by kernel_rfl) (by kernel_rfl) (by kernel_rfl) (by kernel_rfl)) ?_
  intro W base args ds gs before hval0 hW hcnd hsz _
  have hval : ∀ (j : Nat) t v, Yba.f3.params[j]? = some t → args[j]? = some v → Value.okWide Yba.prog W .any base t v := hval0
  have hW' := hW
  obtain ⟨p, q, hA0, hV, rfl, hfz, hnd⟩ := hW
  have hA : DataW.TrodAll enc Yba.prog W 0 (fun _ => true) true Yba.f3.params.toList args.toList ds p := hA0
  rw [Yba.params3] at hA hval
  obtain ⟨v0, vs0, d0, ds0, p0, q0, hargs, rfl, rfl, h0, r0⟩ := trodAll_cons hA
  obtain ⟨v1, vs1, d1, ds1, p1, q1, rfl, rfl, rfl, h1, r1⟩ := trodAll_cons r0
  obtain ⟨v2, vs2, d2, ds2, p2, q2, rfl, rfl, rfl, h2, r2⟩ := trodAll_cons r1
  obtain ⟨rfl, rfl, rfl⟩ := trodAll_nil r2
  obtain rfl : args = #[v0, v1, v2] := by cases args; simp_all
  obtain ⟨rfl, rfl⟩ := trodVars_none hV
  obtain ⟨a0, len0, cap0, rfl⟩ := okWide_slice Yba.underlying22 (hval 0 22 v0 rfl rfl)
  have k0 := h0
  have lt0 : ∀ x ∈ p0, x.block < W.heap.size := by obtain ⟨m, hm⟩ := k0; exact DataW.trod_lt m _ _ _ hm
  have hw : ∀ m ∈ d0.weights Yba.prog 22, m ≤ reachBytes := fun m hm => by
    have := List.all_eq_true.1 hsz m (DataW.weights_mem_each (j := 0) rfl rfl m hm)
    simpa using this
  obtain ⟨ss, w0, hl0, hn0, hnil, hsn⟩ : ∃ ss, SelRow W a0 ss ∧ ss.length = len0 ∧ len0 ≤ 4398046511104 ∧ (a0 = none → len0 = 0) ∧ ∀ s ∈ ss, s.ao = none → s.xs = [] := by
    obtain ⟨fuel, hf⟩ := h0
    exact opened hf hw
  obtain ⟨a1, rfl, rfl, rfl, w1⟩ := open_int Yba.underlying23 (hval 1 23 v1 rfl rfl) h1
  obtain ⟨a2, rfl, rfl, rfl, w2⟩ := open_int Yba.underlying3 (hval 2 3 v2 rfl rfl) h2
  clear hA0 hval0
  refine (walk_main a0 len0 cap0 ss a1 a2 W w0 hl0 hn0 hnil hsn).mono fun e W' ⟨he, bel⟩ => ?_
  subst he
  exact ⟨_, rfl, _, _, _, [], _, [], hW', trodAll_mk1 (shut_bool Yba.underlying4 _), (trodAll_cons_mk (Below.trod laidOut (by kernel_rfl) (of_decide_eq_true (by kernel_rfl)) k0 bel lt0) (trodAll_cons_mk (shut_int Yba.underlying23 w1) (trodAll_cons_mk (shut_int Yba.underlying3 w2) trodAll_mk0))), rfl, bel.frame _, fun h => by cases h⟩

theorem over : Rows.lawS6772CWholeRow.holds Yba.pinned (OpenSpec.ofChange Rows.lawS6772CWholeSpec) :=
  OpenClaim.holds_of_wide 3 Yba.f3 rfl rfl rfl rfl rfl rfl rfl ⟨rfl, rfl, rfl, rfl, rfl⟩ rfl rfl rfl rfl rfl (by kernel_rfl) Yba.func3 (by kernel_rfl)
    (of_decide_eq_true (by kernel_rfl)) (by unfold Func.isWrapper; first | (rw [if_pos (by decide +kernel)]; kernel_rfl) | (rw [if_neg (by decide +kernel)]; exact ⟨rfl, rfl⟩))
    (fun os started H enc _ => lifted os started H enc)

/-- ████ THE STATEMENT ████ -/
theorem proved : Rows.LawS6772CWholeSaid := over
end Go.Proofs.Ybulkejfm.lawS6772CWhole
