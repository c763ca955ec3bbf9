/- The law's own walk. -/
import Derived.Test.YbulkejeyDoorMem
import Derived.Deep.CutBlock
import Derived.Deep.DeepCutAuto
import Derived.BigQuiet
import Derived.Deep.QuietTactic
import Derived.Deep.RegionHeld3
import Derived.WideLaws
namespace Go.Proofs.YbulkejeyDoor
open Go.RowKit
set_option linter.unusedVariables false

/-- What allocate answered: refused, or the next of both. -/
def Out (zs : List Int) (A : Nat → Nat → Int) (z : Option Addr) (na mu au : Nat) (mcc mnc : ByteArray) (group code : Int) (mu' au' : Int) (gv av : List Value) (ev : Value) : Prop :=
  ((au = na ∨ mu = zs.length) ∧ mu' = mu ∧ au' = au ∧ gv = noIdent.toList ∧ av = noAddr.toList ∧ ∃ b : Nat, ev = .iface 65 (.pointer (some ⟨b, 0, none⟩))) ∨
  (au < na ∧ mu < zs.length ∧ mu' = (mu : Int) + 1 ∧ au' = (au : Int) + 1 ∧ gv = (ident guti mcc mnc group code (zs.getD mu 0)).toList ∧ av = [.int .u64 0, .int .u64 (lo4 (A au 0) (A au 1) (A au 2) (A au 3)), .pointer z] ∧ ev = .nilIface)

set_option maxHeartbeats 1000000 in
set_option maxRecDepth 100000 in
theorem walk_main (mcc mnc : ByteArray) (group code : Int) (mt ad : Option Addr) (nm na cm ca : Nat) (zs : List Int) (A : Nat → Nat → Int) (z : Option Addr) (mu au : Int) (w : World) (hn : nm ≤ 1048576) (hn2 : na ≤ 1048576)
    (hzl : zs.length = nm) (hM : RowM w mt zs) (hA : RowA w ad na A) (hz : w.cell? ⟨0, 0, none⟩ = some (.pointer z)) (hu0 : 0 ≤ mu) (hu1 : mu < 18446744073709551616) (ha0 : 0 ≤ au) (ha1 : au < 18446744073709551616) :
    Calls Ybad.prog 3 #[.string mcc, .string mnc, .int .u16 group, .int .u8 code, .slice mt nm cm, .slice ad na ca, .int .u64 mu, .int .u64 au] w fun e w' => e = .returned (.bool true) ∧ Below w.heap.size w w' := by
  have h1 : decide ((1048576 : Int) < (nm : Int)) = false := by simp; omega
  have hw0 : 0 < w.heap.size := by
    rcases Nat.eq_zero_or_pos w.heap.size with h0 | h
    · simp [World.cell?, h0] at hz
    · exact h
  have hmk1 := run_mk23 nm hn
  have hmk2 := run_mk27 A z na hn2
  have HZL := hide hzl
  have HM := hide hM
  have HA := hide hA
  have HZ := hide hz
  clear hzl hM hA hz
  go_enter Ybad.func3, Ybad.ntmps3
  go_upto_block 0 with fail
  go_cut [44, 18] (fun _ _ wc => Blk wc w.heap.size (zs.map (Value.int .u32)) 26 ∧ Below w.heap.size w wc ∧ wc.heap.size = w.heap.size + 1)
  case first =>
    go_wp2_with fail
    go_loopw [44, 18] (fun i _ wr => ∃ k : Nat, k ≤ nm ∧ i = .int .i64 k ∧ Blk wr w.heap.size (fill (zs.map (Value.int .u32)) (.int .u32 0) k) 26 ∧ Below w.heap.size w wr ∧ wr.heap.size = w.heap.size + 1) (fun i _ _ => nm - (intOf i).toNat)
    case atStart =>
      refine ⟨0, Nat.zero_le _, rfl, ?_, (Below.refl _ _).alloc (Nat.le_refl _) _, by simp⟩
      rw [fill_zero, List.length_map, HZL.out]
      exact Blk.new w _ 26
    case round =>
      obtain ⟨k, hk, rfl, hb, hbel, hsz⟩ := hrel
      by_cases hkn : k < nm
      · obtain ⟨b, off, rfl, hbl, hcx⟩ := HM.out.at hbel (k := k) (by rw [HZL.out]; exact hkn)
        have hcb := hb.cell k
        rw [fill_get (by rw [List.length_map, HZL.out]; exact hkn)] at hcb
        have hfb := hb.frozen k
        have hst := hb.setCell k (.int .u32 (zs.getD k 0))
        rw [fill_set (by rw [List.length_map, HZL.out]; exact hkn) (by simp [List.getD, show k < zs.length by rw [HZL.out]; exact hkn])] at hst
        have HST := hide (And.intro hst (And.intro (hbel.setCell (p := ⟨w.heap.size, k, none⟩) (Nat.le_refl _) (.int .u32 (zs.getD k 0))) (show (wr.setCell ⟨w.heap.size, k, none⟩ (.int .u32 (zs.getD k 0))).heap.size = w.heap.size + 1 by simp [World.setCell, hsz])))
        generalize zs.getD k 0 = t at *
        clear hb hbel hst hsz hmk1 hmk2
        go_wp2
        go_roundw
        case rel => exact ⟨k + 1, by omega, by go_num, unhide HST⟩
        case measure => simp [intOf]; omega
      · have hkn' : k = nm := by omega
        rw [hkn', fill_of (by rw [List.length_map, HZL.out])] at hb
        have HB := hide (And.intro hb (And.intro hbel hsz))
        clear hb hbel hsz
        go_wp2
        go_meet
        case rel => exact unhide HB
  case rest =>
    obtain ⟨hb, hbel, hsz⟩ := hcut
    have HB := hide hb
    have HBEL := hide hbel
    clear hb hbel hmk1
    go_upto_block 2 with fail
    go_cut [60, 20] (fun _ _ wc => Blk wc (w.heap.size + 1) (pd A z na na) 35 ∧ Blk wc w.heap.size (zs.map (Value.int .u32)) 26 ∧ Below w.heap.size w wc)
    case first =>
      have HB0 : Hid (Blk (wc.alloc (.cells (pd A z na 0).toArray 35)) (w.heap.size + 1) (pd A z na 0) 35 ∧ Blk (wc.alloc (.cells (pd A z na 0).toArray 35)) w.heap.size (zs.map (Value.int .u32)) 26 ∧ Below w.heap.size w (wc.alloc (.cells (pd A z na 0).toArray 35))) := by
        have h := Blk.new wc (pd A z na 0) 35
        rw [hsz] at h
        exact ⟨h, HB.out.alloc _, HBEL.out.alloc (by omega) _⟩
      clear HB HBEL hmk2
      go_wp2_with fail
      go_loopw [60, 20] (fun i _ wr => ∃ k : Nat, k ≤ na ∧ i = .int .i64 k ∧ Blk wr (w.heap.size + 1) (pd A z na k) 35 ∧ Blk wr w.heap.size (zs.map (Value.int .u32)) 26 ∧ Below w.heap.size w wr) (fun i _ _ => na - (intOf i).toNat)
      case atStart => exact ⟨0, Nat.zero_le _, rfl, HB0.out⟩
      case round =>
        clear HB0 hsz
        obtain ⟨k, hk, rfl, hb, hbm, hbel⟩ := hrel
        by_cases hkn : k < na
        · obtain ⟨b, off, rfl, hbl, q0, q1, q2, q3⟩ := HA.out.at hbel hkn
          have hzr := (hbel.cell (p := ⟨0, 0, none⟩) hw0).trans HZ.out
          have hcall := from4_any (A k 0) (A k 1) (A k 2) (A k 3) z wr hzr (HA.out.1 _ _) (HA.out.1 _ _) (HA.out.1 _ _) (HA.out.1 _ _)
          obtain ⟨adr, hadr⟩ : ∃ adr : Array Value, adr = #[.int .u64 0, .int .u64 (lo4 (A k 0) (A k 1) (A k 2) (A k 3)), .pointer z] := ⟨_, rfl⟩
          rw [← hadr] at hcall
          have hsto : ∀ c1 c2 : Array Value, (storeCells ⟨w.heap.size + 1, k * 3, none⟩ adr.toList).run Ybad.prog ((wr.alloc (.cells c1 37)).alloc (.cells c2 35)) = .ok () (((wr.alloc (.cells c1 37)).alloc (.cells c2 35)).setCells (w.heap.size + 1) (k * 3) adr.toList) :=
            fun c1 c2 => (store_adr ((hb.alloc (.cells c1 37)).alloc (.cells c2 35)) hkn (by rw [hadr])).1
          have HST : Hid (∀ c1 c2 : Array Value, Blk (((wr.alloc (.cells c1 37)).alloc (.cells c2 35)).setCells (w.heap.size + 1) (k * 3) adr.toList) (w.heap.size + 1) (pd A z na (k + 1)) 35 ∧
              Blk (((wr.alloc (.cells c1 37)).alloc (.cells c2 35)).setCells (w.heap.size + 1) (k * 3) adr.toList) w.heap.size (zs.map (Value.int .u32)) 26 ∧
              Below w.heap.size w (((wr.alloc (.cells c1 37)).alloc (.cells c2 35)).setCells (w.heap.size + 1) (k * 3) adr.toList)) := by
            intro c1 c2
            obtain ⟨_, h2, h3⟩ := store_adr ((hb.alloc (.cells c1 37)).alloc (.cells c2 35)) hkn (adr := adr) (by rw [hadr])
            have g1 := hbel.alloc hbel.size (.cells c1 37)
            exact ⟨h2, ((hbm.alloc (.cells c1 37)).alloc (.cells c2 35)).but h3 (by omega), (g1.alloc g1.size (.cells c2 35)).trans (h3.below (by omega))⟩
          have hasz : adr.size = 3 := by rw [hadr]; rfl
          have HC := hide hcall
          generalize A k 0 = x0 at *
          generalize A k 1 = x1 at *
          generalize A k 2 = x2 at *
          generalize A k 3 = x3 at *
          clear hb hbm hbel hzr hcall hadr
          go_wp2_with (go_at_call 4; refine HC.out.mono ?_; rintro e w' ⟨rfl, c1, c2, rfl⟩)
          go_roundw
          case rel => exact ⟨k + 1, by omega, by go_num, HST.out _ _⟩
          case measure => simp [intOf]; omega
        · have hkn' : k = na := by omega
          rw [hkn'] at hb
          have HX := hide (And.intro hb (And.intro hbm hbel))
          clear hb hbm hbel
          go_wp2
          go_meet
          case rel => exact unhide HX
    case rest =>
      obtain ⟨hpd, hmt, hbe⟩ := hcut
      clear HB HBEL hsz hmk2
      have hm0 : 0 ≤ mu % ((nm : Int) + 1) := Int.emod_nonneg _ (by omega)
      have hm1 : mu % ((nm : Int) + 1) < (nm : Int) + 1 := Int.emod_lt_of_pos _ (by omega)
      have ha2 : 0 ≤ au % ((na : Int) + 1) := Int.emod_nonneg _ (by omega)
      have ha3 : au % ((na : Int) + 1) < (na : Int) + 1 := Int.emod_lt_of_pos _ (by omega)
      obtain ⟨m, hm⟩ : ∃ m : Nat, mu % ((nm : Int) + 1) = m := ⟨(mu % ((nm : Int) + 1)).toNat, by omega⟩
      obtain ⟨a, ha⟩ : ∃ a : Nat, au % ((na : Int) + 1) = a := ⟨(au % ((na : Int) + 1)).toNat, by omega⟩
      have hmn : m ≤ nm := by omega
      have han : a ≤ na := by omega
      obtain ⟨N, hN⟩ : ∃ N, wc.heap.size = N := ⟨_, rfl⟩
      have HPD := hide hpd
      have HMT := hide hmt
      have HBE := hide hbe
      have hmm := @run_makeMap Ybad.prog
      clear hpd hmt hbe hm0 hm1 ha2 ha3
      go_upto_region 19 with fail
      clear hm ha hmm
      generalize hMM : N + 1 + 1 = M
      have HMM : Hid (M = N + 2) := hMM.symm
      clear hMM
      have hMM : M = N + 2 := HMM.out
      go_cut [25, 26, 27] (fun s25 s26 s27 wc => ∃ (G : Nat) (mu' au' : Int) (gv av : List Value), s25 = .pointer (some ⟨G, 0, none⟩) ∧ s26 = .pointer (some ⟨G + 1, 0, none⟩) ∧
        St w wc w.heap.size (w.heap.size + 1) N M G mcc mnc group code zs (pd A z na na) na mu' au' gv av ∧ Out zs A z na m a mcc mnc group code mu' au' gv av s27)
      case first =>
        have hBM : Blk (((wc.alloc (.cells #[.string mcc, .string mnc] 39)).alloc (.map #[] 0)).alloc (.cells (mme mcc mnc group code (.slice (some ⟨w.heap.size, 0, none⟩) nm nm) (.slice (some ⟨w.heap.size + 1, 0, none⟩) na na) (N + 1) m a).toArray 53)) M (mme mcc mnc group code (.slice (some ⟨w.heap.size, 0, none⟩) nm nm) (.slice (some ⟨w.heap.size + 1, 0, none⟩) na na) (N + 1) m a) 53 := by
          have h := Blk.new ((wc.alloc (.cells #[.string mcc, .string mnc] 39)).alloc (.map #[] 0)) (mme mcc mnc group code (.slice (some ⟨w.heap.size, 0, none⟩) nm nm) (.slice (some ⟨w.heap.size + 1, 0, none⟩) na na) (N + 1) m a) 53
          rwa [show ((wc.alloc (.cells #[.string mcc, .string mnc] 39)).alloc (.map #[] 0)).heap.size = M by simp [hN]; omega] at h
        have HBM := hide hBM
        clear hBM hMM
        by_cases h1 : a = na
        · subst h1
          have hc := alloc_noaddr mcc mnc group code w.heap.size nm (w.heap.size + 1) a M (N + 1) m _ hn2 HBM.out
          have HC := hide hc
          clear hc
          go_wp2_with fail
          refine HC.out.mono ?_
          rintro e w1 ⟨b, rfl, hb1⟩
          have HST := hide (st_mk (mu' := m) (au' := a) noIdent.toList noAddr.toList hN HMM.out rfl (Nat.lt_succ_self _) HBE.out HMT.out HPD.out (by rw [HZL.out]; exact Grew.of_below hb1) (by rw [HZL.out]; exact HBM.out.below hb1 HBM.out.lt))
          clear hb1 hN
          simp only [noIdent, noAddr]
          go_wp2
          go_meet
          case rel => exact ⟨_, _, _, _, _, rfl, rfl, unhide HST, .inl ⟨.inl rfl, rfl, rfl, rfl, rfl, _, rfl⟩⟩
        · by_cases h2 : m = nm
          · have hc := alloc_nomt mcc mnc group code w.heap.size nm (w.heap.size + 1) na M (N + 1) a _ hn2 hn (by omega) (by rw [h2] at HBM; exact HBM.out)
            have HC := hide hc
            clear hc
            rw [h2] at HBM
            have H2 := hide h2
            subst h2
            go_wp2_with fail
            refine HC.out.mono ?_
            rintro e w1 ⟨b, rfl, hb1⟩
            have HST := hide (st_mk (mu' := m) (au' := a) noIdent.toList noAddr.toList hN HMM.out rfl (Nat.lt_succ_self _) HBE.out HMT.out HPD.out (by rw [HZL.out]; exact Grew.of_below hb1) (by rw [HZL.out]; exact HBM.out.below hb1 HBM.out.lt))
            clear hb1 hN
            simp only [noIdent, noAddr]
            go_wp2
            go_meet
            case rel => exact ⟨_, _, _, _, _, rfl, rfl, unhide HST, .inl ⟨.inr HZL.out.symm, rfl, rfl, rfl, rfl, _, rfl⟩⟩
          · have hml : m < nm := by omega
            have hal : a < na := by omega
            have keepc : ∀ (b o : Nat) (v : Value), b < wc.heap.size → wc.cell? ⟨b, o, none⟩ = some v → (((wc.alloc (.cells #[.string mcc, .string mnc] 39)).alloc (.map #[] 0)).alloc (.cells (mme mcc mnc group code (.slice (some ⟨w.heap.size, 0, none⟩) nm nm) (.slice (some ⟨w.heap.size + 1, 0, none⟩) na na) (N + 1) m a).toArray 53)).cell? ⟨b, o, none⟩ = some v := by
              intro b o v hb hv
              have g := (((Below.refl wc.heap.size wc).alloc (Nat.le_refl _) (.cells #[.string mcc, .string mnc] 39)).alloc (by simp) (.map #[] 0)).alloc (by simp; omega) (.cells (mme mcc mnc group code (.slice (some ⟨w.heap.size, 0, none⟩) nm nm) (.slice (some ⟨w.heap.size + 1, 0, none⟩) na na) (N + 1) m a).toArray 53)
              exact (g.cell (p := ⟨b, o, none⟩) hb).trans hv
            have hpl := HPD.out.lt
            have hmlt := HMT.out.lt
            have hM2 := HMM.out
            have hc := alloc_ok mcc mnc group code w.heap.size nm (w.heap.size + 1) na M (N + 1) m a (zs.getD m 0) (lo4 (A a 0) (A a 1) (A a 2) (A a 3)) z _ hn2 hn hml hal HBM.out (by omega) (by omega) (by simp; omega)
              (keepc _ _ _ hmlt (by rw [HMT.out.cell]; simp [List.getD, show m < zs.length by rw [HZL.out]; exact hml]))
              (keepc _ _ _ hpl (by rw [HPD.out.cell]; rw [show a * 3 = a * 3 + 0 by omega, pd_get hal (by omega)]; simp [adrCell, hal]))
              (keepc _ _ _ hpl (by rw [HPD.out.cell, pd_get hal (by omega)]; simp [adrCell, hal]))
              (keepc _ _ _ hpl (by rw [HPD.out.cell, pd_get hal (by omega)]; simp [adrCell, hal]))
            have HC := hide hc
            clear hc keepc hpl hmlt hM2
            go_wp2_with fail
            refine HC.out.mono ?_
            rintro e w1 ⟨rfl, hb1, hg1⟩
            have HST := hide (st_mk (mu' := (m : Int) + 1) (au' := (a : Int) + 1) (ident guti mcc mnc group code (zs.getD m 0)).toList [.int .u64 0, .int .u64 (lo4 (A a 0) (A a 1) (A a 2) (A a 3)), .pointer z] hN HMM.out rfl (Nat.lt_succ_self _) HBE.out HMT.out HPD.out (by rw [HZL.out]; exact hg1) (by rw [HZL.out]; exact hb1))
            have HOUT : Hid (Out zs A z na m a mcc mnc group code ((m : Int) + 1) ((a : Int) + 1) (ident guti mcc mnc group code (zs.getD m 0)).toList [.int .u64 0, .int .u64 (lo4 (A a 0) (A a 1) (A a 2) (A a 3)), .pointer z] .nilIface) :=
              .inr ⟨hal, by rw [HZL.out]; exact hml, rfl, rfl, rfl, rfl, rfl⟩
            clear hb1 hN hg1
            generalize lo4 (A a 0) (A a 1) (A a 2) (A a 3) = lo at *
            generalize zs.getD m 0 = t at *
            simp only [ident, guti]
            go_wp2
            go_meet
            case rel => exact ⟨_, _, _, _, _, rfl, rfl, unhide HST, unhide HOUT⟩
      case rest =>
        obtain ⟨G, mu', au', gv, av, rfl, rfl, hSt, hOut⟩ := hcut
        have HOUT := hide hOut
        have HST := hide hSt
        have hc0 : wc.cell? ⟨M, 0, none⟩ = some (.string mcc) := by rw [hSt.m.cell]; rfl
        have hc1 : wc.cell? ⟨M, 1, none⟩ = some (.string mnc) := by rw [hSt.m.cell]; rfl
        have hc5 : wc.cell? ⟨M, 5, none⟩ = some (.int .u16 group) := by rw [hSt.m.cell]; rfl
        have hc6 : wc.cell? ⟨M, 6, none⟩ = some (.int .u8 code) := by rw [hSt.m.cell]; rfl
        have hc7 : wc.cell? ⟨M, 7, none⟩ = some (.slice (some ⟨w.heap.size, 0, none⟩) nm nm) := by rw [hSt.m.cell, ← HZL.out]; rfl
        have hc14 : wc.cell? ⟨M, 14, none⟩ = some (.slice (some ⟨w.heap.size + 1, 0, none⟩) na na) := by rw [hSt.m.cell]; rfl
        have hc15 : wc.cell? ⟨M, 15, none⟩ = some (.map (some (N + 1))) := by rw [hSt.m.cell]; rfl
        have hn0 : wc.cell? ⟨N, 0, none⟩ = some (.string mcc) := by rw [hSt.nw.cell]; rfl
        have hn1 : wc.cell? ⟨N, 1, none⟩ = some (.string mnc) := by rw [hSt.nw.cell]; rfl
        have hlen : ∀ q, (Builtin.len_ #[51] 3 #[.map (some (N + 1))]).run Ybad.prog (wc.drewN q) = .ok (.int .i64 0) (wc.drewN q) := fun q =>
          run_len_map (P := Ybad.prog) (wc.drewN q) 51 3 (N + 1) #[] 0 (by kernel_rfl) hSt.mp
        clear hSt hOut HPD HMT HBE hN HMM hMM
        go_wp2
        go_quiet (fail)
        have HS1 := hide (HST.out.drewN nq)
        clear HST hc0 hc1 hc5 hc6 hc15 hn0 hn1 hlen
        go_upto_block 4 with fail
        clear hc7 hc14
        go_cut [161, 28] (fun _ _ wc => St w wc w.heap.size (w.heap.size + 1) N M G mcc mnc group code zs (pd A z na na) na mu' au' gv av)
        case first =>
          go_wp2_with fail
          go_loopw [161, 28] (fun i _ wr => ∃ k : Nat, k ≤ nm ∧ i = .int .i64 k ∧ St w wr w.heap.size (w.heap.size + 1) N M G mcc mnc group code zs (pd A z na na) na mu' au' gv av) (fun i _ _ => nm - (intOf i).toNat)
          case atStart => exact ⟨0, Nat.zero_le _, rfl, unhide HS1⟩
          case round =>
            clear HS1
            obtain ⟨k, hk, rfl, hS⟩ := hrel
            by_cases hkn : k < nm
            · obtain ⟨b, off, rfl, hbl, hcx⟩ := HM.out.at hS.bel (k := k) (by rw [HZL.out]; exact hkn)
              have hc7 : wr.cell? ⟨M, 7, none⟩ = some (.slice (some ⟨w.heap.size, 0, none⟩) nm nm) := by rw [hS.m.cell, ← HZL.out]; rfl
              have hcy : wr.cell? ⟨w.heap.size, k, none⟩ = some (.int .u32 (zs.getD k 0)) := by
                rw [hS.mt.cell]; simp [List.getD, show k < zs.length by rw [HZL.out]; exact hkn]
              generalize zs.getD k 0 = t at *
              have htt : (t != t) = false := by simp
              have hki : (k : Int) < (nm : Int) := by omega
              have HS := hide hS
              clear hS
              go_wp2
              go_quiet (fail)
              go_wp2
              go_roundw
              case rel => exact ⟨k + 1, by omega, by go_num, HS.out.drewN _⟩
              case measure => simp [intOf]; omega
            · have HS := hide hS
              clear hS
              go_wp2
              go_meet
              case rel => exact unhide HS
        case rest =>
          have HS2 := hide hcut
          clear hcut HS1
          go_upto_block 6 with fail
          go_cut [180, 29] (fun _ _ wc => St w wc w.heap.size (w.heap.size + 1) N M G mcc mnc group code zs (pd A z na na) na mu' au' gv av)
          case first =>
            go_wp2_with fail
            go_loopw [180, 29] (fun i _ wr => ∃ k : Nat, k ≤ na ∧ i = .int .i64 k ∧ St w wr w.heap.size (w.heap.size + 1) N M G mcc mnc group code zs (pd A z na na) na mu' au' gv av) (fun i _ _ => na - (intOf i).toNat)
            case atStart => exact ⟨0, Nat.zero_le _, rfl, unhide HS2⟩
            case round =>
              clear HS2
              obtain ⟨k, hk, rfl, hS⟩ := hrel
              by_cases hkn : k < na
              · obtain ⟨b, off, rfl, hbl, q0, q1, q2, q3⟩ := HA.out.at hS.bel hkn
                have hzr := (hS.bel.cell (p := ⟨0, 0, none⟩) hw0).trans HZ.out
                have hcall := fun (wx : World) (hx : wx.cell? ⟨0, 0, none⟩ = some (.pointer z)) => from4_any (A k 0) (A k 1) (A k 2) (A k 3) z wx hx (HA.out.1 _ _) (HA.out.1 _ _) (HA.out.1 _ _) (HA.out.1 _ _)
                have hc14 : wr.cell? ⟨M, 14, none⟩ = some (.slice (some ⟨w.heap.size + 1, 0, none⟩) na na) := by rw [hS.m.cell]; rfl
                have p0 : wr.cell? ⟨w.heap.size + 1, k * 3, none⟩ = some (.int .u64 0) := by rw [hS.pd.cell, show k * 3 = k * 3 + 0 by omega, pd_get hkn (by omega)]; simp [adrCell, hkn]
                have p1 : wr.cell? ⟨w.heap.size + 1, k * 3 + 1, none⟩ = some (.int .u64 (lo4 (A k 0) (A k 1) (A k 2) (A k 3))) := by rw [hS.pd.cell, pd_get hkn (by omega)]; simp [adrCell, hkn]
                have p2 : wr.cell? ⟨w.heap.size + 1, k * 3 + 2, none⟩ = some (.pointer z) := by rw [hS.pd.cell, pd_get hkn (by omega)]; simp [adrCell, hkn]
                have hki : (k : Int) < (na : Int) := by omega
                have h31 := same31 z
                have HC := hide hcall
                have HS := hide hS
                generalize lo4 (A k 0) (A k 1) (A k 2) (A k 3) = lo at *
                generalize A k 0 = x0 at *
                generalize A k 1 = x1 at *
                generalize A k 2 = x2 at *
                generalize A k 3 = x3 at *
                have hlo : (lo == lo) = true := by simp
                clear hS hcall
                go_wp2
                go_region_held3 (fun w' => w'.cell? ⟨M, 14, none⟩ = some (.slice (some ⟨w.heap.size + 1, 0, none⟩) na na) ∧ w'.cell? ⟨w.heap.size + 1, k * 3, none⟩ = some (.int .u64 0) ∧ w'.cell? ⟨w.heap.size + 1, k * 3 + 1, none⟩ = some (.int .u64 lo) ∧ w'.cell? ⟨w.heap.size + 1, k * 3 + 2, none⟩ = some (.pointer z) ∧
                    w'.cell? ⟨b, off + k * 4, none⟩ = some (.int .u8 x0) ∧ w'.cell? ⟨b, off + k * 4 + 1, none⟩ = some (.int .u8 x1) ∧ w'.cell? ⟨b, off + k * 4 + 2, none⟩ = some (.int .u8 x2) ∧ w'.cell? ⟨b, off + k * 4 + 3, none⟩ = some (.int .u8 x3) ∧ w'.cell? ⟨0, 0, none⟩ = some (.pointer z) ∧ Below wr.heap.size wr w')
                  (first | exact ⟨hc14, p0, p1, p2, q0, q1, q2, q3, hzr, (Below.refl _ _).drew⟩ | exact ⟨keep2 _ _ hc14, keep2 _ _ p0, keep2 _ _ p1, keep2 _ _ p2, keep2 _ _ q0, keep2 _ _ q1, keep2 _ _ q2, keep2 _ _ q3, keep2 _ _ hzr, below2 _ _ _⟩)
                  (first | (go_at_call 4; refine (HC.out _ ?_).mono ?_; exact hzr; rintro e w' ⟨rfl, c1, c2, rfl⟩))
                go_wp2
                go_roundw
                case rel => exact ⟨k + 1, by omega, by go_num, HS.out.keep (below2 _ _ _)⟩
                case measure => simp [intOf]; omega
              · have HS := hide hS
                clear hS
                go_wp2
                go_meet
                case rel => exact unhide HS
          case rest =>
            have HS3 := hide hcut
            clear hcut HS2
            have hc16 : wc.cell? ⟨M, 16, none⟩ = some (.int .i64 mu') := by rw [HS3.out.m.cell]; rfl
            have hc17 : wc.cell? ⟨M, 17, none⟩ = some (.int .i64 au') := by rw [HS3.out.m.cell]; rfl
            have h31 := same31
            rcases HOUT.out with ⟨hor, rfl, rfl, rfl, rfl, b, rfl⟩ | ⟨hal, hml, rfl, rfl, rfl, rfl, rfl⟩
            · obtain ⟨g0, g1, g2, g3, g4, g5, g6, _⟩ := Blk.cells7 HS3.out.g
              obtain ⟨k0, k1, k2, _⟩ := Blk.cells3 HS3.out.h
              have hend := HS3.out.bel
              have HEND := hide hend
              clear hend HOUT
              by_cases h1 : a = na
              · subst h1
                clear hor
                go_wp2
                go_ret
                exact ⟨rfl, unhide HEND⟩
              · have h2 : m = nm := by rw [← HZL.out]; exact hor.resolve_left h1
                have h3 : ((a : Int) == (na : Int)) = false := by simp; omega
                subst h2
                clear hor
                go_wp2
                go_ret
                exact ⟨rfl, unhide HEND⟩
            · have hmn' : m < nm := by rw [← HZL.out]; exact hml
              obtain ⟨b, off, rfl, hbl, hcx⟩ := HM.out.at HS3.out.bel (k := m) hml
              obtain ⟨b', off', rfl, hbl', q0, q1, q2, q3⟩ := HA.out.at HS3.out.bel hal
              have hzr := (HS3.out.bel.cell (p := ⟨0, 0, none⟩) hw0).trans HZ.out
              have hcall := fun (wx : World) (hx : wx.cell? ⟨0, 0, none⟩ = some (.pointer z)) => from4_any (A a 0) (A a 1) (A a 2) (A a 3) z wx hx (HA.out.1 _ _) (HA.out.1 _ _) (HA.out.1 _ _) (HA.out.1 _ _)
              have hn0 : wc.cell? ⟨N, 0, none⟩ = some (.string mcc) := by rw [HS3.out.nw.cell]; rfl
              have hn1 : wc.cell? ⟨N, 1, none⟩ = some (.string mnc) := by rw [HS3.out.nw.cell]; rfl
              obtain ⟨g0, g1, g2, g3, g4, g5, g6, _⟩ := Blk.cells7 HS3.out.g
              obtain ⟨k0, k1, k2, _⟩ := Blk.cells3 HS3.out.h
              have l1 : N < wc.heap.size := HS3.out.nw.lt
              have l2 : b < wc.heap.size := by have := HS3.out.bel.size; omega
              have h3 : ((a : Int) == (na : Int)) = false := by simp; omega
              have h4 : ((m : Int) == (nm : Int)) = false := by simp; omega
              have hmi : (m : Int) < (nm : Int) := by omega
              have hai : (a : Int) < (na : Int) := by omega
              have HC := hide hcall
              generalize lo4 (A a 0) (A a 1) (A a 2) (A a 3) = lo at *
              generalize A a 0 = x0 at *
              generalize A a 1 = x1 at *
              generalize A a 2 = x2 at *
              generalize A a 3 = x3 at *
              generalize zs.getD m 0 = t at *
              clear hcall HOUT hml hal
              go_wp2
              go_region
              go_wp2
              have hbm1 : (((m : Int) + 1) == ((m : Int) + 1)) = true := by simp
              have hba1 : (((a : Int) + 1) == ((a : Int) + 1)) = true := by simp
              have hwm : IntKind.i64.wrap ((m : Int) + 1) = (m : Int) + 1 := by rw [IntKind.wrap_i64]; omega
              have hwa : IntKind.i64.wrap ((a : Int) + 1) = (a : Int) + 1 := by rw [IntKind.wrap_i64]; omega
              have hnew : Blk ((wc.alloc (.cells #[.string { data := #[71, 85, 84, 73] }, .string { data := #[] }, .string mcc, .string mnc, .int .u16 group, .int .u8 code, .int .u32 t] 56)).drew) wc.heap.size [.string { data := #[71, 85, 84, 73] }, .string { data := #[] }, .string mcc, .string mnc, .int .u16 group, .int .u8 code, .int .u32 t] 56 := Blk.new wc [.string { data := #[71, 85, 84, 73] }, .string { data := #[] }, .string mcc, .string mnc, .int .u16 group, .int .u8 code, .int .u32 t] 56
              have HBW : Hid (Below w.heap.size w ((wc.alloc (.cells #[.string { data := #[71, 85, 84, 73] }, .string { data := #[] }, .string mcc, .string mnc, .int .u16 group, .int .u8 code, .int .u32 t] 56)).drew)) := (HS3.out.bel.alloc HS3.out.bel.size _).drew
              have e0 : ((wc.alloc (.cells #[.string { data := #[71, 85, 84, 73] }, .string { data := #[] }, .string mcc, .string mnc, .int .u16 group, .int .u8 code, .int .u32 t] 56)).drew).cell? ⟨wc.heap.size, 0, none⟩ = some (.string { data := #[71, 85, 84, 73] }) := hnew.cell 0
              have e1 : ((wc.alloc (.cells #[.string { data := #[71, 85, 84, 73] }, .string { data := #[] }, .string mcc, .string mnc, .int .u16 group, .int .u8 code, .int .u32 t] 56)).drew).cell? ⟨wc.heap.size, 1, none⟩ = some (.string { data := #[] }) := hnew.cell 1
              have e2 : ((wc.alloc (.cells #[.string { data := #[71, 85, 84, 73] }, .string { data := #[] }, .string mcc, .string mnc, .int .u16 group, .int .u8 code, .int .u32 t] 56)).drew).cell? ⟨wc.heap.size, 2, none⟩ = some (.string mcc) := hnew.cell 2
              have e3 : ((wc.alloc (.cells #[.string { data := #[71, 85, 84, 73] }, .string { data := #[] }, .string mcc, .string mnc, .int .u16 group, .int .u8 code, .int .u32 t] 56)).drew).cell? ⟨wc.heap.size, 3, none⟩ = some (.string mnc) := hnew.cell 3
              have e4 : ((wc.alloc (.cells #[.string { data := #[71, 85, 84, 73] }, .string { data := #[] }, .string mcc, .string mnc, .int .u16 group, .int .u8 code, .int .u32 t] 56)).drew).cell? ⟨wc.heap.size, 4, none⟩ = some (.int .u16 group) := hnew.cell 4
              have e5 : ((wc.alloc (.cells #[.string { data := #[71, 85, 84, 73] }, .string { data := #[] }, .string mcc, .string mnc, .int .u16 group, .int .u8 code, .int .u32 t] 56)).drew).cell? ⟨wc.heap.size, 5, none⟩ = some (.int .u8 code) := hnew.cell 5
              have e6 : ((wc.alloc (.cells #[.string { data := #[71, 85, 84, 73] }, .string { data := #[] }, .string mcc, .string mnc, .int .u16 group, .int .u8 code, .int .u32 t] 56)).drew).cell? ⟨wc.heap.size, 6, none⟩ = some (.int .u32 t) := hnew.cell 6
              have y0 : ((wc.alloc (.cells #[.string { data := #[71, 85, 84, 73] }, .string { data := #[] }, .string mcc, .string mnc, .int .u16 group, .int .u8 code, .int .u32 t] 56)).drew).cell? ⟨G, 0, none⟩ = some (.string { data := #[71, 85, 84, 73] }) := some_alloc (.cells #[.string { data := #[71, 85, 84, 73] }, .string { data := #[] }, .string mcc, .string mnc, .int .u16 group, .int .u8 code, .int .u32 t] 56) g0
              have y1 : ((wc.alloc (.cells #[.string { data := #[71, 85, 84, 73] }, .string { data := #[] }, .string mcc, .string mnc, .int .u16 group, .int .u8 code, .int .u32 t] 56)).drew).cell? ⟨G, 1, none⟩ = some (.string { data := #[] }) := some_alloc (.cells #[.string { data := #[71, 85, 84, 73] }, .string { data := #[] }, .string mcc, .string mnc, .int .u16 group, .int .u8 code, .int .u32 t] 56) g1
              have y2 : ((wc.alloc (.cells #[.string { data := #[71, 85, 84, 73] }, .string { data := #[] }, .string mcc, .string mnc, .int .u16 group, .int .u8 code, .int .u32 t] 56)).drew).cell? ⟨G, 2, none⟩ = some (.string mcc) := some_alloc (.cells #[.string { data := #[71, 85, 84, 73] }, .string { data := #[] }, .string mcc, .string mnc, .int .u16 group, .int .u8 code, .int .u32 t] 56) g2
              have y3 : ((wc.alloc (.cells #[.string { data := #[71, 85, 84, 73] }, .string { data := #[] }, .string mcc, .string mnc, .int .u16 group, .int .u8 code, .int .u32 t] 56)).drew).cell? ⟨G, 3, none⟩ = some (.string mnc) := some_alloc (.cells #[.string { data := #[71, 85, 84, 73] }, .string { data := #[] }, .string mcc, .string mnc, .int .u16 group, .int .u8 code, .int .u32 t] 56) g3
              have y4 : ((wc.alloc (.cells #[.string { data := #[71, 85, 84, 73] }, .string { data := #[] }, .string mcc, .string mnc, .int .u16 group, .int .u8 code, .int .u32 t] 56)).drew).cell? ⟨G, 4, none⟩ = some (.int .u16 group) := some_alloc (.cells #[.string { data := #[71, 85, 84, 73] }, .string { data := #[] }, .string mcc, .string mnc, .int .u16 group, .int .u8 code, .int .u32 t] 56) g4
              have y5 : ((wc.alloc (.cells #[.string { data := #[71, 85, 84, 73] }, .string { data := #[] }, .string mcc, .string mnc, .int .u16 group, .int .u8 code, .int .u32 t] 56)).drew).cell? ⟨G, 5, none⟩ = some (.int .u8 code) := some_alloc (.cells #[.string { data := #[71, 85, 84, 73] }, .string { data := #[] }, .string mcc, .string mnc, .int .u16 group, .int .u8 code, .int .u32 t] 56) g5
              have y6 : ((wc.alloc (.cells #[.string { data := #[71, 85, 84, 73] }, .string { data := #[] }, .string mcc, .string mnc, .int .u16 group, .int .u8 code, .int .u32 t] 56)).drew).cell? ⟨G, 6, none⟩ = some (.int .u32 t) := some_alloc (.cells #[.string { data := #[71, 85, 84, 73] }, .string { data := #[] }, .string mcc, .string mnc, .int .u16 group, .int .u8 code, .int .u32 t] 56) g6
              have s0 : ((wc.alloc (.cells #[.string { data := #[71, 85, 84, 73] }, .string { data := #[] }, .string mcc, .string mnc, .int .u16 group, .int .u8 code, .int .u32 t] 56)).drew).cell? ⟨G + 1, 0, none⟩ = some (.int .u64 0) := some_alloc (.cells #[.string { data := #[71, 85, 84, 73] }, .string { data := #[] }, .string mcc, .string mnc, .int .u16 group, .int .u8 code, .int .u32 t] 56) k0
              have s1 : ((wc.alloc (.cells #[.string { data := #[71, 85, 84, 73] }, .string { data := #[] }, .string mcc, .string mnc, .int .u16 group, .int .u8 code, .int .u32 t] 56)).drew).cell? ⟨G + 1, 1, none⟩ = some (.int .u64 lo) := some_alloc (.cells #[.string { data := #[71, 85, 84, 73] }, .string { data := #[] }, .string mcc, .string mnc, .int .u16 group, .int .u8 code, .int .u32 t] 56) k1
              have s2 : ((wc.alloc (.cells #[.string { data := #[71, 85, 84, 73] }, .string { data := #[] }, .string mcc, .string mnc, .int .u16 group, .int .u8 code, .int .u32 t] 56)).drew).cell? ⟨G + 1, 2, none⟩ = some (.pointer z) := some_alloc (.cells #[.string { data := #[71, 85, 84, 73] }, .string { data := #[] }, .string mcc, .string mnc, .int .u16 group, .int .u8 code, .int .u32 t] 56) k2
              have r0 : ((wc.alloc (.cells #[.string { data := #[71, 85, 84, 73] }, .string { data := #[] }, .string mcc, .string mnc, .int .u16 group, .int .u8 code, .int .u32 t] 56)).drew).cell? ⟨b', off' + a * 4, none⟩ = some (.int .u8 x0) := some_alloc (.cells #[.string { data := #[71, 85, 84, 73] }, .string { data := #[] }, .string mcc, .string mnc, .int .u16 group, .int .u8 code, .int .u32 t] 56) q0
              have r1 : ((wc.alloc (.cells #[.string { data := #[71, 85, 84, 73] }, .string { data := #[] }, .string mcc, .string mnc, .int .u16 group, .int .u8 code, .int .u32 t] 56)).drew).cell? ⟨b', off' + a * 4 + 1, none⟩ = some (.int .u8 x1) := some_alloc (.cells #[.string { data := #[71, 85, 84, 73] }, .string { data := #[] }, .string mcc, .string mnc, .int .u16 group, .int .u8 code, .int .u32 t] 56) q1
              have r2 : ((wc.alloc (.cells #[.string { data := #[71, 85, 84, 73] }, .string { data := #[] }, .string mcc, .string mnc, .int .u16 group, .int .u8 code, .int .u32 t] 56)).drew).cell? ⟨b', off' + a * 4 + 2, none⟩ = some (.int .u8 x2) := some_alloc (.cells #[.string { data := #[71, 85, 84, 73] }, .string { data := #[] }, .string mcc, .string mnc, .int .u16 group, .int .u8 code, .int .u32 t] 56) q2
              have r3 : ((wc.alloc (.cells #[.string { data := #[71, 85, 84, 73] }, .string { data := #[] }, .string mcc, .string mnc, .int .u16 group, .int .u8 code, .int .u32 t] 56)).drew).cell? ⟨b', off' + a * 4 + 3, none⟩ = some (.int .u8 x3) := some_alloc (.cells #[.string { data := #[71, 85, 84, 73] }, .string { data := #[] }, .string mcc, .string mnc, .int .u16 group, .int .u8 code, .int .u32 t] 56) q3
              have d16 : ((wc.alloc (.cells #[.string { data := #[71, 85, 84, 73] }, .string { data := #[] }, .string mcc, .string mnc, .int .u16 group, .int .u8 code, .int .u32 t] 56)).drew).cell? ⟨M, 16, none⟩ = some (.int .i64 ((m : Int) + 1)) := some_alloc (.cells #[.string { data := #[71, 85, 84, 73] }, .string { data := #[] }, .string mcc, .string mnc, .int .u16 group, .int .u8 code, .int .u32 t] 56) hc16
              have d17 : ((wc.alloc (.cells #[.string { data := #[71, 85, 84, 73] }, .string { data := #[] }, .string mcc, .string mnc, .int .u16 group, .int .u8 code, .int .u32 t] 56)).drew).cell? ⟨M, 17, none⟩ = some (.int .i64 ((a : Int) + 1)) := some_alloc (.cells #[.string { data := #[71, 85, 84, 73] }, .string { data := #[] }, .string mcc, .string mnc, .int .u16 group, .int .u8 code, .int .u32 t] 56) hc17
              have dz : ((wc.alloc (.cells #[.string { data := #[71, 85, 84, 73] }, .string { data := #[] }, .string mcc, .string mnc, .int .u16 group, .int .u8 code, .int .u32 t] 56)).drew).cell? ⟨0, 0, none⟩ = some (.pointer z) := some_alloc (.cells #[.string { data := #[71, 85, 84, 73] }, .string { data := #[] }, .string mcc, .string mnc, .int .u16 group, .int .u8 code, .int .u32 t] 56) hzr
              clear hnew g0 g1 g2 g3 g4 g5 g6 k0 k1 k2 q0 q1 q2 q3 hc16 hc17 hzr hn0 hn1 hcx HS3
              generalize (wc.alloc (.cells #[.string { data := #[71, 85, 84, 73] }, .string { data := #[] }, .string mcc, .string mnc, .int .u16 group, .int .u8 code, .int .u32 t] 56)).drew = wd at *
              go_region_held3 (fun w' => w'.cell? ⟨wc.heap.size, 0, none⟩ = some (.string { data := #[71, 85, 84, 73] }) ∧ w'.cell? ⟨wc.heap.size, 1, none⟩ = some (.string { data := #[] }) ∧ w'.cell? ⟨wc.heap.size, 2, none⟩ = some (.string mcc) ∧ w'.cell? ⟨wc.heap.size, 3, none⟩ = some (.string mnc) ∧ w'.cell? ⟨wc.heap.size, 4, none⟩ = some (.int .u16 group) ∧ w'.cell? ⟨wc.heap.size, 5, none⟩ = some (.int .u8 code) ∧ w'.cell? ⟨wc.heap.size, 6, none⟩ = some (.int .u32 t) ∧ w'.cell? ⟨G, 0, none⟩ = some (.string { data := #[71, 85, 84, 73] }) ∧ w'.cell? ⟨G, 1, none⟩ = some (.string { data := #[] }) ∧ w'.cell? ⟨G, 2, none⟩ = some (.string mcc) ∧ w'.cell? ⟨G, 3, none⟩ = some (.string mnc) ∧ w'.cell? ⟨G, 4, none⟩ = some (.int .u16 group) ∧ w'.cell? ⟨G, 5, none⟩ = some (.int .u8 code) ∧ w'.cell? ⟨G, 6, none⟩ = some (.int .u32 t) ∧ w'.cell? ⟨G + 1, 0, none⟩ = some (.int .u64 0) ∧ w'.cell? ⟨G + 1, 1, none⟩ = some (.int .u64 lo) ∧ w'.cell? ⟨G + 1, 2, none⟩ = some (.pointer z) ∧ w'.cell? ⟨b', off' + a * 4, none⟩ = some (.int .u8 x0) ∧ w'.cell? ⟨b', off' + a * 4 + 1, none⟩ = some (.int .u8 x1) ∧ w'.cell? ⟨b', off' + a * 4 + 2, none⟩ = some (.int .u8 x2) ∧ w'.cell? ⟨b', off' + a * 4 + 3, none⟩ = some (.int .u8 x3) ∧ w'.cell? ⟨M, 16, none⟩ = some (.int .i64 ((m : Int) + 1)) ∧ w'.cell? ⟨M, 17, none⟩ = some (.int .i64 ((a : Int) + 1)) ∧ w'.cell? ⟨0, 0, none⟩ = some (.pointer z) ∧ Below wd.heap.size wd w')
                (first | exact ⟨e0, e1, e2, e3, e4, e5, e6, y0, y1, y2, y3, y4, y5, y6, s0, s1, s2, r0, r1, r2, r3, d16, d17, dz, (Below.refl _ _).drew⟩ | exact ⟨keep2 _ _ e0, keep2 _ _ e1, keep2 _ _ e2, keep2 _ _ e3, keep2 _ _ e4, keep2 _ _ e5, keep2 _ _ e6, keep2 _ _ y0, keep2 _ _ y1, keep2 _ _ y2, keep2 _ _ y3, keep2 _ _ y4, keep2 _ _ y5, keep2 _ _ y6, keep2 _ _ s0, keep2 _ _ s1, keep2 _ _ s2, keep2 _ _ r0, keep2 _ _ r1, keep2 _ _ r2, keep2 _ _ r3, keep2 _ _ d16, keep2 _ _ d17, keep2 _ _ dz, below2 _ _ _⟩)
                (first | (go_at_call 4; refine (HC.out _ ?_).mono ?_; exact dz; rintro e w' ⟨rfl, c1, c2, rfl⟩))
              go_wp2
              go_ret
              exact ⟨rfl, HBW.out.trans ((below2 wd _ _).mono HBW.out.size)⟩
end Go.Proofs.YbulkejeyDoor
