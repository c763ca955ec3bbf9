/- The law's own walk. -/
import Derived.Test.YbulkejeyCalls
import Derived.Deep.CutBlock
import Derived.Deep.DeepCutAuto
import Derived.BigQuiet
import Derived.Deep.QuietTactic
import Derived.WalkSpells
namespace Go.Proofs.Ybulkejey
open Go.RowKit

theorem info3 : (Yba.prog.info? 3).map (fun i => (i.zero, i.size, i.bytes)) = some (some (.int .i64 0), 1, 8) := by kernel_rfl
def zeros (n : Nat) : List Value := List.replicate n (Value.int .i64 0)
theorem run_mk (c : Nat) (hc : c ≤ 1048576) (w : World) : (Instr.makeSlice 22 (.int .i64 c) (.int .i64 c)).run Yba.prog w = .ok (.slice (some ⟨w.heap.size, 0, none⟩) c c) (w.alloc (.cells (zeros c).toArray 3)) := by
  obtain ⟨i0, hi0, hz0, hz1, hz2⟩ := info_parts info3
  rw [run_make w 22 3 i0 (.int .i64 0) Yba.underlying22 hi0 hz0 .i64 .i64 c c (by omega) (by omega) (by rw [hz2]; omega) (by omega)]
  simp only [Int.toNat_natCast]
  congr 3
  rw [hz1, Nat.mul_one]
  simp [madeCells, zeros, Value.cells]
  apply Array.ext
  · simp
  · intro i h1 h2
    simp [Nat.mod_one]

theorem Row.cells {w : World} {ao : Option Addr} {xs : List Int} (h : Row w ao xs) : 0 < (xs.map (Value.int .i64)).length → ∃ ad, ao = some ad ∧ ∀ j v, (xs.map (Value.int .i64))[j]? = some v → w.cell? (ad.add j) = some v := by
  intro h0
  rcases h with rfl | ⟨b, off, rfl, hc⟩
  · simp at h0
  · refine ⟨_, rfl, fun j v hj => ?_⟩
    have hjl : j < xs.length := by have := (List.getElem?_eq_some_iff.1 hj).1; simpa using this
    rw [Addr.add_lit, hc j hjl, ← hj]
    simp [List.getD, hjl]
theorem ints_one (xs : List Int) : ∀ v ∈ xs.map (Value.int .i64), v.oneCell' = true := by
  intro v hv
  obtain ⟨x, _, rfl⟩ := List.mem_map.1 hv
  rfl
theorem Row.of_blk {w : World} {b : Nat} {xs : List Int} {T : TypeId} (h : Blk w b (xs.map (Value.int .i64)) T) : Row w (some ⟨b, 0, none⟩) xs := by
  refine .inr ⟨b, 0, rfl, fun i hi => ?_⟩
  rw [Nat.zero_add, h.cell]
  simp [List.getD, hi]
theorem Row.keep {B : Nat} {w w' : World} {ao : Option Addr} {xs : List Int} (h : Row w ao xs) (hb : Below B w w') (hlt : ∀ a, ao = some a → 0 < xs.length → a.block < B) : Row w' ao xs := by
  rcases h with h | ⟨b, off, rfl, hc⟩
  · exact .inl h
  · exact .inr ⟨b, off, rfl, fun i hi => (hb.cell (p := ⟨b, off + i, none⟩) (hlt ⟨b, off, none⟩ rfl (by omega))).trans (hc i hi)⟩
theorem Row.at {w : World} {y : Addr} {xs : List Int} (h : Row w (some y) xs) {k : Nat} (hk : k < xs.length) : ∃ b off, y = ⟨b, off, none⟩ ∧ w.cell? ⟨b, off + k, none⟩ = some (.int .i64 (xs.getD k 0)) := by
  rcases h with rfl | ⟨b, off, hy, hc⟩
  · simp at hk
  · exact ⟨b, off, Option.some.inj hy, hc k hk⟩

/-- What 'in' is behind the planting: a slice of n numbers; where something was planted, n is among them. -/
def In (w wc : World) (ao : Option Addr) (xs : List Int) (n : Nat) (x : Int) (plant : Bool) : Prop :=
  xs.length = n ∧ Row wc ao xs ∧ Below w.heap.size w wc ∧ (∀ a, ao = some a → 0 < xs.length → a.block < wc.heap.size) ∧ (ao = none → n = 0) ∧ (plant = true → 0 < n → has xs x = true)

set_option maxHeartbeats 400000 in
set_option maxRecDepth 100000 in
theorem walk_main (a : Option Addr) (n cap : Nat) (zs : List Int) (x pick : Int) (plant : Bool) (w : World) (hn : n ≤ 1048576) (hzl : zs.length = n) (hrow : Row w a zs) (hblk : ∀ y, a = some y → 0 < zs.length → y.block < w.heap.size) (hnil : a = none → n = 0)
    (hx0 : 0 ≤ x) (hx1 : x ≤ 255) (hp0 : 0 ≤ pick) (hp1 : pick ≤ 255) :
    Calls Yba.prog 3 #[.slice a n cap, .int .u8 x, .int .u8 pick, .bool plant] w fun e w' => e = .returned (.bool true) ∧ Below w.heap.size w w' := by
  have hmk := run_mk n hn
  obtain ⟨i0, hi0, hz0, hz1, hz2⟩ := info_parts info3
  have HZ := hide hzl
  have HR := hide hrow
  have HB := hide hblk
  have HNIL := hide hnil
  have hneq := fun w a n c => run_neq_slice_nil_any (P := Yba.prog) w 22 3 a n c 0 0 Yba.underlying22
  have heql := fun w a n c => Lib.run_eql_slice_nil (P := Yba.prog) w 22 3 a n c 0 0 Yba.underlying22
  clear hzl hrow hblk hnil
  cases plant with
  | false =>
    go_enter Yba.func3, Yba.ntmps3
    go_upto_if 22 with fail
    go_cut [9] (fun v wc => ∃ ao c xs, v = .slice ao n c ∧ In w wc ao xs n x false)
    case first =>
      go_wp2
      go_meet
      case rel => exact ⟨a, cap, zs, rfl, HZ.out, HR.out, Below.refl _ _, HB.out, HNIL.out, fun h => by cases h⟩
    case rest =>
      obtain ⟨ao, c, xs, rfl, hxl, hxr, hbel, hxb, hxn, hxp⟩ := hcut
      have HBEL := hide hbel
      cases ao with
      | none =>
        have hn0 := hxn rfl
        obtain rfl : xs = [] := List.eq_nil_of_length_eq_zero (by rw [hxl, hn0])
        have hs := supports_any none c [] x wc hxr hx0 hx1 (by simp)
        have hm := model_any none 0 [] x wc hxr hx0 hx1 (by simp)
        have HS := hide hs
        have HM := hide hm
        clear hxl hxr hbel hxb hxn hxp hs hm HZ HR HB HNIL hmk
        subst hn0
        have hf : has [] x = false := rfl
        go_wp2_with (first
          | (go_at_call 4; refine (unhide HS).mono ?_; rintro e w' ⟨rfl, rfl⟩)
          | (go_at_call 5; refine (unhide HM).mono ?_; rintro e w' ⟨rfl, rfl⟩))
        go_loop [12] (fun i => i = .int .i64 0) (fun _ => 0)
        case atStart => rfl
        case round =>
          subst hrel
          go_wp2
          go_ret
          exact ⟨rfl, unhide HBEL⟩
      | some y =>
        have hsrc := (hxr.keep ((Below.refl wc.heap.size wc).alloc (Nat.le_refl _) (.cells (zeros n).toArray 3)) hxb).cells
        have HSRC := hide hsrc
        have HXR := hide hxr
        have HXB := hide hxb
        have HXL := hide hxl
        clear hxl hxr hbel hxb hxn hxp hsrc HZ HR HB HNIL
        obtain ⟨w1, hcp, hb1, hbut⟩ := run_copy_ex (P := Yba.prog) (wc.alloc (.cells (zeros n).toArray 3)) 22 22 3 3 i0 1 Yba.underlying22 hi0 hz1 wc.heap.size n n (some y) c (zeros n) (xs.map (Value.int .i64)) 3 (Blk.new wc (zeros n) 3)
          (by simp [zeros, HXL.out]) (by simp [HXL.out]) (unhide HSRC) (ints_one xs)
        have hbel1 : Below wc.heap.size wc w1 := ((Below.refl wc.heap.size wc).alloc (Nat.le_refl _) _).trans (hbut.below (Nat.le_refl _))
        have HR1 := hide (HXR.out.keep hbel1 HXB.out)
        have HR2 := hide (Row.of_blk hb1)
        have HBE := hide (HBEL.out.trans (hbel1.mono HBEL.out.size))
        have hs := supports_any (some y) c xs x w1 HR1.out hx0 hx1 (by rw [HXL.out]; exact hn)
        have hm := model_any (some ⟨wc.heap.size, 0, none⟩) n xs x w1 HR2.out hx0 hx1 (by rw [HXL.out]; exact hn)
        rw [HXL.out] at hs hm
        generalize hq : has xs x = q at *
        have HQ := hide hq
        have HS := hide hs
        have HM := hide hm
        have hqq : (q != q) = false := by simp
        clear hb1 hbut hbel1 hs hm HSRC HXR HXB HBEL hq
        go_wp2_with (first
          | (go_at_call 4; refine (unhide HS).mono ?_; rintro e w' ⟨rfl, hw⟩; obtain rfl := hw.symm)
          | (go_at_call 5; refine (unhide HM).mono ?_; rintro e w' ⟨rfl, hw⟩; obtain rfl := hw.symm))
        go_loopw [12] (fun i wr => ∃ k nq : Nat, k ≤ n ∧ i = .int .i64 k ∧ wr = w1.drewN nq) (fun i _ => n - (intOf i).toNat)
        case atStart => exact ⟨0, 0, Nat.zero_le _, rfl, rfl⟩
        case round =>
          obtain ⟨k, nq, hk, rfl, rfl⟩ := hrel
          by_cases hkn : k < n
          · obtain ⟨b, off, rfl, hc1⟩ := HR1.out.at (k := k) (by rw [HXL.out]; exact hkn)
            obtain ⟨b', off', hy', hc2⟩ := HR2.out.at (k := k) (by rw [HXL.out]; exact hkn)
            obtain ⟨rfl, rfl⟩ : b' = wc.heap.size ∧ off' = 0 := by
              have := Addr.mk.inj hy'; exact ⟨this.1.symm, this.2.1.symm⟩
            rw [Nat.zero_add] at hc2
            generalize xs.getD k 0 = z at *
            have hzz : (z != z) = false := by simp
            clear hy'
            have hki : (k : Int) < (n : Int) := by omega
            go_wp2
            go_quiet (fail)
            go_wp2
            go_roundw
            case rel => exact ⟨k + 1, _, by omega, by go_num, rfl⟩
            case measure => simp [intOf]; omega
          · go_wp2
            go_ret
            exact ⟨rfl, below_drewN (unhide HBE) nq⟩
  | true =>
    go_enter Yba.func3, Yba.ntmps3
    go_upto_if 22 with fail
    go_cut [9] (fun v wc => ∃ ao c xs, v = .slice ao n c ∧ In w wc ao xs n x true)
    case first =>
      by_cases h0 : 0 < n
      · cases a with
        | none => exact absurd (HNIL.out rfl) (by omega)
        | some y =>
          have hsrc := (HR.out.keep ((Below.refl w.heap.size w).alloc (Nat.le_refl _) (.cells (zeros n).toArray 3)) HB.out).cells
          obtain ⟨w1, hcp, hb1, hbut⟩ := run_copy_ex (P := Yba.prog) (w.alloc (.cells (zeros n).toArray 3)) 22 22 3 3 i0 1 Yba.underlying22 hi0 hz1 w.heap.size n n (some y) cap (zeros n) (zs.map (Value.int .i64)) 3 (Blk.new w (zeros n) 3)
            (by simp [zeros, HZ.out]) (by simp [HZ.out]) hsrc (ints_one zs)
          have hbel1 : Below w.heap.size w w1 := ((Below.refl w.heap.size w).alloc (Nat.le_refl _) _).trans (hbut.below (Nat.le_refl _))
          have hb0 : 0 ≤ pick % (n : Int) := Int.emod_nonneg _ (by omega)
          have hb2 : pick % (n : Int) < n := Int.emod_lt_of_pos _ (by omega)
          obtain ⟨m, hm⟩ : ∃ m, (pick % (n : Int)).toNat = m := ⟨_, rfl⟩
          have hmn : m < n := by omega
          have hcm : w1.cell? ⟨w.heap.size, (pick % (n : Int)).toNat, none⟩ = some (.int .i64 (zs.getD m 0)) := by
            rw [hm, hb1.cell]; simp [List.getD, show m < zs.length by rw [HZ.out]; exact hmn]
          have hfm : w1.frozen? ⟨w.heap.size, (pick % (n : Int)).toNat, none⟩ = false := hb1.frozen _
          have hb3 := hb1.setCell (pick % (n : Int)).toNat (.int .i64 x)
          rw [show (zs.map (Value.int .i64)).set (pick % (n : Int)).toNat (.int .i64 x) = (zs.set m x).map (Value.int .i64) by rw [hm, List.map_set]] at hb3
          have HIN : Hid (In w (w1.setCell ⟨w.heap.size, (pick % (n : Int)).toNat, none⟩ (.int .i64 x)) (some ⟨w.heap.size, 0, none⟩) (zs.set m x) n x true) := by
            refine ⟨by simp [HZ.out], Row.of_blk hb3, hbel1.setCell (Nat.le_refl _) _, fun a ha _ => ?_, (fun h => by cases h), fun _ _ => ?_⟩
            · obtain rfl := Option.some.inj ha
              exact hb3.lt
            · unfold has
              rw [List.any_eq_true]
              exact ⟨x, List.mem_set (by rw [HZ.out]; exact hmn) _, by simp⟩
          clear hsrc hb1 hbut hbel1 hb3 hm
          go_wp2
          go_meet
          case rel => exact ⟨_, _, _, rfl, unhide HIN⟩
      · have hd : decide (0 < n) = false := by simp; omega
        go_wp2
        go_meet
        case rel => exact ⟨a, cap, zs, rfl, HZ.out, HR.out, Below.refl _ _, HB.out, HNIL.out, fun _ h => absurd h h0⟩
    case rest =>
      obtain ⟨ao, c, xs, rfl, hxl, hxr, hbel, hxb, hxn, hxp⟩ := hcut
      have HBEL := hide hbel
      have HXP := hide (hxp rfl)
      cases ao with
      | none =>
        have hn0 := hxn rfl
        obtain rfl : xs = [] := List.eq_nil_of_length_eq_zero (by rw [hxl, hn0])
        have hs := supports_any none c [] x wc hxr hx0 hx1 (by simp)
        have hm := model_any none 0 [] x wc hxr hx0 hx1 (by simp)
        have HS := hide hs
        have HM := hide hm
        clear hxl hxr hbel hxb hxn hxp hs hm HZ HR HB HNIL hmk
        subst hn0
        have hf : has [] x = false := rfl
        go_wp2_with (first
          | (go_at_call 4; refine (unhide HS).mono ?_; rintro e w' ⟨rfl, rfl⟩)
          | (go_at_call 5; refine (unhide HM).mono ?_; rintro e w' ⟨rfl, rfl⟩))
        go_loop [12] (fun i => i = .int .i64 0) (fun _ => 0)
        case atStart => rfl
        case round =>
          subst hrel
          go_wp2
          go_ret
          exact ⟨rfl, unhide HBEL⟩
      | some y =>
        have hsrc := (hxr.keep ((Below.refl wc.heap.size wc).alloc (Nat.le_refl _) (.cells (zeros n).toArray 3)) hxb).cells
        have HSRC := hide hsrc
        have HXR := hide hxr
        have HXB := hide hxb
        have HXL := hide hxl
        clear hxl hxr hbel hxb hxn hxp hsrc HZ HR HB HNIL
        obtain ⟨w1, hcp, hb1, hbut⟩ := run_copy_ex (P := Yba.prog) (wc.alloc (.cells (zeros n).toArray 3)) 22 22 3 3 i0 1 Yba.underlying22 hi0 hz1 wc.heap.size n n (some y) c (zeros n) (xs.map (Value.int .i64)) 3 (Blk.new wc (zeros n) 3)
          (by simp [zeros, HXL.out]) (by simp [HXL.out]) (unhide HSRC) (ints_one xs)
        have hbel1 : Below wc.heap.size wc w1 := ((Below.refl wc.heap.size wc).alloc (Nat.le_refl _) _).trans (hbut.below (Nat.le_refl _))
        have HR1 := hide (HXR.out.keep hbel1 HXB.out)
        have HR2 := hide (Row.of_blk hb1)
        have HBE := hide (HBEL.out.trans (hbel1.mono HBEL.out.size))
        have hs := supports_any (some y) c xs x w1 HR1.out hx0 hx1 (by rw [HXL.out]; exact hn)
        have hm := model_any (some ⟨wc.heap.size, 0, none⟩) n xs x w1 HR2.out hx0 hx1 (by rw [HXL.out]; exact hn)
        rw [HXL.out] at hs hm
        generalize hq : has xs x = q at *
        have HQ := hide hq
        have HS := hide hs
        have HM := hide hm
        have hqq : (q != q) = false := by simp
        clear hb1 hbut hbel1 hs hm HSRC HXR HXB HBEL hq
        go_wp2_with (first
          | (go_at_call 4; refine (unhide HS).mono ?_; rintro e w' ⟨rfl, hw⟩; obtain rfl := hw.symm)
          | (go_at_call 5; refine (unhide HM).mono ?_; rintro e w' ⟨rfl, hw⟩; obtain rfl := hw.symm))
        go_loopw [12] (fun i wr => ∃ k nq : Nat, k ≤ n ∧ i = .int .i64 k ∧ wr = w1.drewN nq) (fun i _ => n - (intOf i).toNat)
        case atStart => exact ⟨0, 0, Nat.zero_le _, rfl, rfl⟩
        case round =>
          obtain ⟨k, nq, hk, rfl, rfl⟩ := hrel
          by_cases hkn : k < n
          · obtain ⟨b, off, rfl, hc1⟩ := HR1.out.at (k := k) (by rw [HXL.out]; exact hkn)
            obtain ⟨b', off', hy', hc2⟩ := HR2.out.at (k := k) (by rw [HXL.out]; exact hkn)
            obtain ⟨rfl, rfl⟩ : b' = wc.heap.size ∧ off' = 0 := by
              have := Addr.mk.inj hy'; exact ⟨this.1.symm, this.2.1.symm⟩
            rw [Nat.zero_add] at hc2
            generalize xs.getD k 0 = z at *
            have hzz : (z != z) = false := by simp
            clear hy'
            have hki : (k : Int) < (n : Int) := by omega
            go_wp2
            go_quiet (fail)
            go_wp2
            go_roundw
            case rel => exact ⟨k + 1, _, by omega, by go_num, rfl⟩
            case measure => simp [intOf]; omega
          · by_cases h0 : 0 < n
            · have hqt : q = true := HXP.out h0
              subst hqt
              go_wp2
              go_ret
              exact ⟨rfl, below_drewN (unhide HBE) nq⟩
            · have hd : decide (0 < n) = false := by simp; omega
              go_wp2
              go_ret
              exact ⟨rfl, below_drewN (unhide HBE) nq⟩
end Go.Proofs.Ybulkejey
