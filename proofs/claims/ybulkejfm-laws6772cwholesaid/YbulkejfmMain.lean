/- The law's own walk. -/
import Derived.Test.YbulkejfmMem
import Derived.BigQuiet
import Derived.Deep.QuietTactic
import Derived.WalkSpells
namespace Go.Proofs.Ybulkejfm
open Go.RowKit
set_option linter.unusedVariables false

theorem SelRow.drewN {w : World} {ao : Option Addr} {ss : List Sel} (h : SelRow w ao ss) (q : Nat) : SelRow (w.drewN q) ao ss := h

set_option maxHeartbeats 1000000 in
set_option maxRecDepth 100000 in
theorem walk_main (ao : Option Addr) (n c : Nat) (ss : List Sel) (alg x : Int) (w : World) (hr : SelRow w ao ss) (hl : ss.length = n) (hn : n ≤ 4398046511104) (hnil : ao = none → n = 0) (hsn : ∀ s ∈ ss, s.ao = none → s.xs = []) :
    Calls Yba.prog 3 #[.slice ao n c, .int .u16 alg, .int .i64 x] w fun e w' => e = .returned (.bool true) ∧ Below w.heap.size w w' := by
  have HR := hide hr
  have HL := hide hl
  have HNIL := hide hnil
  have HSN := hide hsn
  clear hr hl hnil hsn
  have hneq := fun w a n c => run_neq_slice_nil_any (P := Yba.prog) w 22 26 a n c 0 0 Yba.underlying22
  have hneq2 := fun w a n c => run_neq_slice_nil_any (P := Yba.prog) w 24 3 a n c 0 0 Yba.underlying24
  have heql := fun w a n c => Lib.run_eql_slice_nil (P := Yba.prog) w 22 26 a n c 0 0 Yba.underlying22
  have heql2 := fun w a n c => Lib.run_eql_slice_nil (P := Yba.prog) w 24 3 a n c 0 0 Yba.underlying24
  have heql3 := fun w a n c => Lib.run_eql_slice_nil (P := Yba.prog) w 27 30 a n c 0 0 Yba.underlying27
  go_enter Yba.func3, Yba.ntmps3
  go_upto_block 0 with fail
  go_cut [7, 8] (fun _ _ wc => wc = w ∧ n ≤ 1048576 ∧ ∀ s ∈ ss, s.xs.length ≤ 1048576)
  case first =>
    go_wp2_with fail
    go_loopg [7, 8] n (fun g t i wr => wr = w ∧ ∃ k : Nat, k ≤ n ∧ g = n - k ∧ i = .int .i64 k ∧ t = .int .i64 (tot n (ss.take k)) ∧ (0 < k → tot n (ss.take k) ≤ 1048576))
    case atStart => exact ⟨rfl, 0, Nat.zero_le _, by omega, rfl, by simp [tot], fun h => absurd h (by omega)⟩
    case round =>
      obtain ⟨hwr, k, hk, hgk, rfl, rfl, hbd⟩ := hrel
      subst hwr
      by_cases hkn : k < n
      · obtain ⟨b, off, rfl, hb, hc0, hc1, hrow, hlen⟩ := HR.out.at (k := k) (by rw [HL.out]; exact hkn)
        have HT := hide (tot_take (n := n) (ss := ss) (k := k) (by rw [HL.out]; exact hkn))
        have ht0 : tot n (ss.take k) ≤ 4398046511104 := by
          rcases Nat.eq_zero_or_pos k with h0 | h0
          · subst h0; simpa [tot] using hn
          · have := hbd h0; omega
        generalize tot n (ss.take k) = t at *
        generalize ss.getD k noSel = s at *
        obtain ⟨sh, sa, sc, xs⟩ := s
        simp only at hc0 hc1 hrow hlen
        have HT' : Hid (tot n (ss.take (k + 1)) = t + xs.length) := HT
        clear HT hrow hbd hc0
        generalize xs.length = L at *
        by_cases hgt : t + L ≤ 1048576
        · have hgt' : (t : Int) + (L : Int) ≤ 1048576 := by omega
          go_wp2
          go_roundg (n - (k + 1))
          case measure => omega
          case rel => exact ⟨rfl, k + 1, by omega, rfl, by go_num, by rw [HT'.out]; go_num, fun _ => by rw [HT'.out]; exact hgt⟩
        · have hgt' : (1048576 : Int) < (t : Int) + (L : Int) := by omega
          go_wp2
          go_ret
          exact ⟨rfl, Below.refl _ _⟩
      · have hkn' : k = n := by omega
        have hfin : n ≤ 1048576 ∧ ∀ s ∈ ss, s.xs.length ≤ 1048576 := by
          subst hkn'
          rcases Nat.eq_zero_or_pos k with h0 | h0
          · refine ⟨by omega, fun s hs => ?_⟩
            have : ss.length = 0 := by rw [HL.out]; exact h0
            obtain rfl := List.eq_nil_of_length_eq_zero this
            cases hs
          · have h1 := hbd h0
            rw [List.take_of_length_le (by rw [HL.out]; exact Nat.le_refl _)] at h1
            exact ⟨by unfold tot at h1; omega, fun s hs => Nat.le_trans (le_tot hs) h1⟩
        have HF := hide hfin
        clear hfin hbd
        go_wp2
        go_meet
        case rel => exact ⟨rfl, unhide HF⟩
  case rest =>
    obtain ⟨hwc, hn20, hlens⟩ := hcut
    obtain rfl := hwc.symm
    have HLEN := hide hlens
    clear hlens
    go_upto_if 34 with fail
    go_cut [9] (fun v wc => ∃ so c' ns, v = .slice so n c' ∧ SelRow wc so ns ∧ ns.length = n ∧ (∀ i, i < n → Like (ns.getD i noSel) (ss.getD i noSel)) ∧ so.isNone = ao.isNone ∧ Below w.heap.size w wc)
    case first =>
      cases ao with
      | none =>
        have hn0 := HNIL.out rfl
        have hss : ss = [] := List.eq_nil_of_length_eq_zero (by rw [HL.out]; exact hn0)
        have HREL : Hid (∃ so c' ns, Value.slice none 0 0 = .slice so n c' ∧ SelRow w so ns ∧ ns.length = n ∧ (∀ i, i < n → Like (ns.getD i noSel) (ss.getD i noSel)) ∧ so.isNone = (none : Option Addr).isNone ∧ Below w.heap.size w w) :=
          ⟨none, 0, [], by rw [hn0], ⟨fun s hs => (by cases hs), .inl rfl⟩, by rw [hn0]; rfl, fun i hi => absurd hi (by omega), rfl, Below.refl _ _⟩
        clear hss hn0
        go_wp2
        go_meet
        case rel => exact unhide HREL
      | some y =>
        have hmk27 := run_mk27 n hn20
        go_wp2_with fail
        clear hmk27
        go_loopg [10, 11] n (fun g i _ wr => ∃ ns : List Sel, ns.length ≤ n ∧ g = n - ns.length ∧ i = .int .i64 ns.length ∧ Fill w wr w.heap.size n ss ns)
        case atStart => exact ⟨[], Nat.zero_le _, rfl, rfl, Fill.start w n ss⟩
        case round =>
          obtain ⟨ns, hk, hgk, rfl, hF⟩ := hrel
          have HF := hide hF
          by_cases hkn : ns.length < n
          · obtain ⟨b, off, hy, hb, hc0, hc1, hrow, _⟩ := (HR.out.keep hF.bel).at (k := ns.length) (by rw [HL.out]; exact hkn)
            obtain rfl := Option.some.inj hy
            have hmem := getD_mem (ss := ss) (k := ns.length) (by rw [HL.out]; exact hkn)
            have hlen := HLEN.out _ hmem
            have hsn := HSN.out _ hmem
            have hlk : Like (ss.getD ns.length noSel) (ss.getD ns.length noSel) := ⟨rfl, rfl, rfl⟩
            have HG : Hid (∀ s : Sel, Like s (ss.getD ns.length noSel) → (∀ w1, Below wr.heap.size wr w1 → (s.xs = [] ∨ ∃ b, s.ao = some ⟨b, 0, none⟩ ∧ w.heap.size < b ∧ Blk w1 b (s.xs.map (Value.int .i64)) 3) ∧ s.xs.length ≤ 1048576 →
                Fill w ((w1.setCell ⟨w.heap.size, ns.length * 2, none⟩ (.int .u16 s.hash)).setCell ⟨w.heap.size, ns.length * 2 + 1, none⟩ (.slice s.ao s.xs.length s.cap)) w.heap.size n ss (ns ++ [s]))) :=
              fun s hs w1 hb1 hr1 => HF.out.step hb1 s hkn hs hr1
            have hSl := hF.blk.lt
            have d0 : wr.cell? ⟨w.heap.size, ns.length * 2, none⟩ = some (selCell (ns.getD ns.length noSel) 0) := by rw [hF.blk.cell, show ns.length * 2 = ns.length * 2 + 0 by omega]; exact selCells_get hkn (by omega)
            have d1 : wr.cell? ⟨w.heap.size, ns.length * 2 + 1, none⟩ = some (selCell (ns.getD ns.length noSel) 1) := by rw [hF.blk.cell]; exact selCells_get hkn (by omega)
            have df := hF.blk.frozen
            generalize selCell (ns.getD ns.length noSel) 0 = v0 at *
            generalize selCell (ns.getD ns.length noSel) 1 = v1 at *
            have hls : (ns ++ [noSel]).length = ns.length + 1 := by simp
            generalize ss.getD ns.length noSel = s at *
            obtain ⟨sh, sa, sc, xs⟩ := s
            simp only at hc0 hc1 hrow hlen hsn
            have HLS : Hid (∀ s : Sel, (ns ++ [s]).length = ns.length + 1) := fun s => by simp
            clear hF hmem hlk hls
            obtain ⟨k, hkk⟩ : ∃ k, ns.length = k := ⟨_, rfl⟩
            rw [hkk] at hk hgk hkn hc0 hc1 HG d0 d1 HLS ⊢
            have HKK := hide hkk
            clear hkk
            have hki : (k : Int) < (n : Int) := by omega
            cases sa with
            | none =>
              have hx := hsn rfl
              subst hx
              have HE := hide (HG.out ⟨sh, none, 0, []⟩ ⟨rfl, rfl, rfl⟩ wr (Below.refl _ _) ⟨.inl rfl, by simp⟩)
              clear HG hsn hrow
              go_wp2
              go_roundg (n - (k + 1))
              case measure => omega
              case rel => exact ⟨ns ++ [⟨sh, none, 0, []⟩], by rw [HLS.out]; omega, by rw [HLS.out], by rw [HLS.out]; go_num, unhide HE⟩
            | some y =>
              obtain ⟨i0, hi0, hz0, hz1, hz2⟩ := info_parts info3
              have hmk := run_mk24 xs.length hlen wr
              have hal : Below wr.heap.size wr (wr.alloc (.cells (zeros xs.length).toArray 3)) := (Below.refl _ _).alloc (Nat.le_refl _) _
              obtain ⟨w1, hcp, hblk1, hbut⟩ := run_copy_ex (P := Yba.prog) (wr.alloc (.cells (zeros xs.length).toArray 3)) 24 24 3 3 i0 1 Yba.underlying24 hi0 hz1 wr.heap.size xs.length xs.length (some y) sc (zeros xs.length) (xs.map (Value.int .i64)) 3 (Blk.new _ _ _) (by simp [zeros]) (by simp) (hrow.keep hal).cells (ints_one xs)
              have hbel1 : Below wr.heap.size wr w1 := hal.trans (hbut.below (Nat.le_refl _))
              have HE := hide (HG.out ⟨sh, some ⟨wr.heap.size, 0, none⟩, xs.length, xs⟩ ⟨rfl, rfl, rfl⟩ w1 hbel1 ⟨.inr ⟨_, rfl, hSl, hblk1⟩, hlen⟩)
              have hc1a := (hal.cell (p := ⟨b, off + k * 2 + 1, none⟩) hb).trans hc1
              have hc0b := (hbel1.cell (p := ⟨b, off + k * 2, none⟩) hb).trans hc0
              have e0 := (hbel1.cell (p := ⟨w.heap.size, k * 2, none⟩) hSl).trans d0
              have e1 := (hbel1.cell (p := ⟨w.heap.size, k * 2 + 1, none⟩) hSl).trans d1
              have ef : ∀ o, w1.frozen? ⟨w.heap.size, o, none⟩ = false := fun o => (hbel1.frozen (p := ⟨w.heap.size, o, none⟩) hSl).trans (df o)
              clear HG hsn hrow hbel1 hblk1 hbut hal hi0 hz0 hz1 hz2 d0 d1 df
              generalize wr.alloc (.cells (zeros xs.length).toArray 3) = wa at *
              go_wp2_with fail
              go_roundg (n - (k + 1))
              case measure => omega
              case rel => exact ⟨ns ++ [⟨sh, some ⟨wr.heap.size, 0, none⟩, xs.length, xs⟩], by rw [HLS.out]; omega, by rw [HLS.out], by rw [HLS.out]; go_num, unhide HE⟩
          · have hkn' : ns.length = n := by omega
            have HS := hide hkn'
            clear hkn'
            go_wp2
            go_meet
            case rel => exact ⟨some ⟨w.heap.size, 0, none⟩, n, ns, rfl, HF.out.done HS.out, HS.out, fun i hi => HF.out.like i (by rw [HS.out]; exact hi), rfl, HF.out.bel⟩
    case rest =>
      obtain ⟨so, c', ns, rfl, hsr, hnl, hlike, hiso, hbel⟩ := hcut
      have HSR := hide hsr
      have HNL := hide hnl
      have HLK := hide hlike
      have HISO := hide hiso
      have HBEL := hide hbel
      clear hsr hnl hlike hbel
      go_wp2_with fail
      refine (selects_any so n c' ns alg x _ HSR.out HNL.out hn).mono ?_
      rintro e w1 ⟨rfl, hb1⟩
      rw [sels_like (by rw [HNL.out, HL.out]) (fun i hi => HLK.out i (by rw [← HL.out]; exact hi)) alg x]
      have HR1 := hide ((HR.out.keep HBEL.out).keep (hb1.mono (Nat.le_refl _)))
      have HS1 := hide (HSR.out.keep hb1)
      have HB1 := hide (HBEL.out.trans (hb1.mono HBEL.out.size))
      clear hb1 HSR HBEL
      go_wp2_with fail
      refine (model_any ao n c ss alg x _ HR1.out HL.out hn).mono ?_
      rintro e w2 ⟨rfl, hw2⟩
      obtain rfl := hw2.symm
      have hqq : (sels ss alg x != sels ss alg x) = false := by simp
      generalize sels ss alg x = q at *
      have hnn : ((n : Int) != (n : Int)) = false := by simp
      go_wp2_with fail
      clear hqq hnn hneq heql heql3 hiso
      go_loopg [13] n (fun g i wr => ∃ k : Nat, k ≤ n ∧ g = n - k ∧ i = .int .i64 k ∧ SelRow wr ao ss ∧ SelRow wr so ns ∧ Below w.heap.size w wr)
      case atStart => exact ⟨0, Nat.zero_le _, by omega, rfl, HR1.out, HS1.out, HB1.out⟩
      case round =>
        obtain ⟨k, hk, hgk, rfl, hra, hrs, hbw⟩ := hrel
        have HRA := hide hra
        have HRS := hide hrs
        have HBW := hide hbw
        clear HR1 HS1 HB1 hbw
        by_cases hkn : k < n
        · have hki : (k : Int) < (n : Int) := by omega
          obtain ⟨b, off, rfl, hb, hc0, hc1, hrow, hlen⟩ := hra.at (k := k) (by rw [HL.out]; exact hkn)
          obtain ⟨b', off', rfl, hb', hd0, hd1, hrow', hlen'⟩ := hrs.at (k := k) (by rw [HNL.out]; exact hkn)
          have hlk := HLK.out k hkn
          clear hra hrs
          generalize ss.getD k noSel = s at *
          generalize ns.getD k noSel = s' at *
          obtain ⟨sh, sa, sc, xs⟩ := s
          obtain ⟨sh', sa', sc', xs'⟩ := s'
          obtain ⟨e1, e2, e3⟩ := hlk
          simp only at e1 e2 e3 hc0 hc1 hrow hlen hd0 hd1 hrow' hlen'
          subst e1
          subst e2
          have hhh : (sh' != sh') = false := by simp
          have hll : ((xs'.length : Int) != (xs'.length : Int)) = false := by simp
          have hkeep : Hid (∀ q, SelRow (wr.drewN q) (some ⟨b, off, none⟩) ss ∧ SelRow (wr.drewN q) (some ⟨b', off', none⟩) ns ∧ Below w.heap.size w (wr.drewN q)) := fun q => ⟨HRA.out.drewN q, HRS.out.drewN q, below_drewN HBW.out q⟩
          have HROW := hide hrow
          have HROW' := hide hrow'
          clear hrow hrow'
          go_wp2_with go_quiet (fail)
          clear hhh hll e3 heql2 hneq2 hc0 hd0
          go_loopg [14] xs'.length (fun g i wx => ∃ j : Nat, j ≤ xs'.length ∧ g = xs'.length - j ∧ i = .int .i64 j ∧ ∃ q, wx = wr.drewN q)
          case atStart => exact ⟨0, Nat.zero_le _, by omega, rfl, _, World.drewN_drewN _ _ _⟩
          case round =>
            obtain ⟨j, hj, hgj, rfl, q4, hwx⟩ := hrel
            subst hwx
            by_cases hjl : j < xs'.length
            · have hji : (j : Int) < (xs'.length : Int) := by omega
              obtain ⟨p, o, rfl, hp, hcj⟩ := HROW.out.at hjl
              obtain ⟨p', o', rfl, hp', hdj⟩ := HROW'.out.at hjl
              generalize xs'.getD j 0 = z at *
              have hzz : (z != z) = false := by simp
              go_wp2_with go_quiet (fail)
              go_roundg (xs'.length - (j + 1))
              case measure => omega
              case rel => exact ⟨j + 1, by omega, rfl, by go_num, _, rfl⟩
            · have hjl' : j = xs'.length := by omega
              go_wp2
              go_roundg (n - (k + 1))
              case measure => omega
              case rel => exact ⟨k + 1, by omega, rfl, by go_num, hkeep.out q4⟩
        · have hkn' : k = n := by omega
          clear hra hrs
          go_wp2
          go_ret
          exact ⟨rfl, unhide HBW⟩
end Go.Proofs.Ybulkejfm
