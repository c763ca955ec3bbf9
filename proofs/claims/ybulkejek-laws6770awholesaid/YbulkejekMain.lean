/- The law's own walk: each loop cut off by itself. -/
import Derived.Test.YbulkejekMem
import Derived.Deep.CutBlock
import Derived.Deep.DeepCutAuto
import Derived.BigQuiet
import Derived.Deep.QuietTactic
namespace Go.Proofs.Ybulkejek
open Go.RowKit

set_option maxHeartbeats 400000 in
set_option maxRecDepth 100000 in
theorem walk_main (b off n cap : Nat) (zs : List Int) (pick : Int) (w : World) (h0 : 0 < n) (hn : n ≤ 1048576) (hz : n ≤ zs.length) (hbl : b < w.heap.size)
    (hc : ∀ i, i < n → w.cell? ⟨b, off + i, none⟩ = some (.int .u8 (zs.getD i 0))) (hwf : ∀ i, 0 ≤ zs.getD i 0 ∧ zs.getD i 0 ≤ 255) (hp0 : 0 ≤ pick) (hp1 : pick < 18446744073709551616) :
    Calls Yba.prog 3 #[.slice (some ⟨b, off, none⟩) n cap, .int .u64 pick] w fun e w' => e = .returned (.bool true) ∧ Below w.heap.size w w' := by
  have hmk := run_mk n n (Nat.le_refl _) hn
  have hn0 : ((n : Int) == 0) = false := by simp; omega
  have HC : Hid (∀ i, i < n → w.cell? ⟨b, off + i, none⟩ = some (.int .u8 (zs.getD i 0))) := hc
  have HW : Hid (∀ i, 0 ≤ zs.getD i 0 ∧ zs.getD i 0 ≤ 255) := hwf
  clear hc hwf
  go_enter Yba.func3, Yba.ntmps3
  go_upto_block 0 with fail
  go_cut [6] (fun _ wc => Pool w.heap.size 8 w wc)
  case first =>
    go_wp2_with fail
    go_loopw [6] (fun i wr => ∃ k : Nat, k ≤ 8 ∧ i = .int .i64 k ∧ Pool w.heap.size k w wr) (fun i _ => 8 - (intOf i).toNat)
    case atStart => exact ⟨0, Nat.zero_le _, rfl, pool_start w⟩
    case round =>
      obtain ⟨k, hk, rfl, hP⟩ := hrel
      by_cases hk8 : k < 8
      · have hc0 : wr.cell? ⟨w.heap.size, k, none⟩ = some (.pointer none) := pool_cell hP hk8
        have hf0 : wr.frozen? ⟨w.heap.size, k, none⟩ = false := hP.pl.frozen _
        have hlt : w.heap.size < wr.heap.size := hP.pl.lt
        have HP : Hid (Pool w.heap.size k w wr) := hP
        clear hP
        go_wp2
        go_roundw
        case rel => exact ⟨k + 1, by omega, by go_num, pool_step HP.out hk8 _⟩
        case measure => simp [intOf]; omega
      · have hk8' : k = 8 := by omega
        subst hk8'
        have HP : Hid (Pool w.heap.size 8 w wr) := hP
        clear hP
        go_wp2
        go_meet
        case rel => exact HP.out
  case rest =>
    obtain ⟨L, hL⟩ : ∃ L, wc.heap.size = L := ⟨_, rfl⟩
    have HP : Hid (Pool w.heap.size 8 w wc) := hcut
    clear hcut
    go_upto_block 2 with fail
    have HS : Hid ((src w.heap.size n zs).length = n) := src_length hz
    have HM0 : Mem w.heap.size L w ((wc.alloc (.cells (nils n).toArray 24)).alloc (.cells (nils n).toArray 24)) (filled (src w.heap.size n zs) 0) (filled (src w.heap.size n zs) 0) := by
      have := mem_start HP.out hL (src w.heap.size n zs)
      rw [HS.out] at this; exact this
    clear HP
    go_cut [10] (fun _ wc => Mem w.heap.size L w wc (src w.heap.size n zs) (src w.heap.size n zs))
    case first =>
      go_wp2_with fail
      go_loopw [10] (fun i wr => ∃ k : Nat, k ≤ n ∧ i = .int .i64 k ∧ Mem w.heap.size L w wr (filled (src w.heap.size n zs) k) (filled (src w.heap.size n zs) k)) (fun i _ => n - (intOf i).toNat)
      case atStart => exact ⟨0, Nat.zero_le _, rfl, HM0⟩
      case round =>
        clear HM0 hmk hL
        obtain ⟨k, hk, rfl, hM⟩ := hrel
        by_cases hkn : k < n
        · have hcx := (hM.bel.cell (p := ⟨b, off + k, none⟩) hbl).trans (HC.out k hkn)
          have hwk := HW.out k
          have hsk := src_get (B := w.heap.size) hz hkn
          have hpc := hM.pool_cell (t := (zs.getD k 0 % 9).toNat) (by omega)
          have hlc : wr.cell? ⟨L, k, none⟩ = some (.pointer none) := by
            have := hM.lst
            unfold Ptrs at this
            rw [this.cell, List.getElem?_map, filled_get (by rw [HS.out]; exact hkn)]; rfl
          have hlf := hM.lst.frozen k
          have hwc : wr.cell? ⟨L + 1, k, none⟩ = some (.pointer none) := by
            have := hM.wnt
            unfold Ptrs at this
            rw [this.cell, List.getElem?_map, filled_get (by rw [HS.out]; exact hkn)]; rfl
          have hwf' := hM.wnt.frozen k
          have hM2 := hM.set2 k (recAt w.heap.size (zs.getD k 0 % 9).toNat) (recAt w.heap.size (zs.getD k 0 % 9).toNat)
          rw [filled_set (by rw [HS.out]; exact hkn) hsk] at hM2
          generalize zs.getD k 0 = z at *
          generalize hq : recAt w.heap.size (z % 9).toNat = q at *
          have hLB1 : w.heap.size < L := by have := hM.hL; omega
          clear hM hsk hq HC HW
          have hz1 := hwk.1
          have hz2 := hwk.2
          clear hwk
          go_wp2
          go_roundw
          case rel => exact ⟨k + 1, by omega, by go_num, hM2⟩
          case measure => simp [intOf]; omega
        · have hkn' : k = n := by omega
          rw [hkn', filled_of HS.out] at hM
          have HM : Hid (Mem w.heap.size L w wr (src w.heap.size n zs) (src w.heap.size n zs)) := hM
          clear hM
          go_wp2
          go_meet
          case rel => exact HM.out
    case rest =>
      clear HM0 hL HC HW
      have hrec := src_rec (B := w.heap.size) (n := n) (zs := zs)
      generalize hSg : src w.heap.size n zs = S at *
      clear hSg hz
      obtain ⟨m, hm⟩ : ∃ m, (pick % (n : Int)).toNat = m := ⟨_, rfl⟩
      have hmk' : m < n := by
        have := Int.emod_lt_of_pos pick (b := (n : Int)) (by omega)
        omega
      have hcm := hcut.lst.cell (k := m) (by rw [HS.out]; exact hmk')
      obtain ⟨r, hr⟩ : ∃ r, S.getD m none = r := ⟨_, rfl⟩
      obtain ⟨J, hJm, hJr, hJf⟩ := first_exists S r m hr
      have hJn : J < n := by omega
      have hb0 : 0 ≤ pick % (n : Int) := Int.emod_nonneg _ (by omega)
      have hb1 : pick % (n : Int) < n := Int.emod_lt_of_pos _ (by omega)
      rw [hr, ← hm] at hcm
      have HM : Hid (Mem w.heap.size L w wc S S) := hcut
      have HR : Hid (∀ p ∈ S, ∃ t, p = recAt w.heap.size t) := hrec
      have HJ : Hid (S.getD J none = r ∧ ∀ k, k < J → S.getD k none ≠ r) := ⟨hJr, hJf⟩
      clear hcut hrec hr hJr hJf hm
      go_upto_block 4 with fail
      go_cut [12] (fun j wc' => wc' = wc ∧ j = .int .i64 J)
      case first =>
        go_wp2_with fail
        go_loop [12] (fun j => ∃ k : Nat, k ≤ J ∧ j = .int .i64 k) (fun j => n - (intOf j).toNat)
        case atStart => exact ⟨0, Nat.zero_le _, rfl⟩
        case round =>
          obtain ⟨k, hk, rfl⟩ := hrel
          have hkS : k < S.length := by rw [HS.out]; omega
          have hck := HM.out.wnt.cell hkS
          obtain ⟨t, ht⟩ := HR.out _ (getD_mem hkS)
          obtain ⟨t', ht'⟩ := HR.out _ (getD_mem (k := J) (by rw [HS.out]; exact hJn))
          have hnq := run_neq_ptr wc (HM.out.rec_ok t) (HM.out.rec_ok t')
          rw [← ht, ← ht', HJ.out.1] at hnq
          by_cases hkJ : k < J
          · have hne : S.getD k none ≠ r := HJ.out.2 k hkJ
            generalize S.getD k none = p at *
            simp only [hne, decide_false, Bool.not_false] at hnq
            have hkn : k < n := by omega
            clear hne ht ht' hkS hcm hmk
            go_wp2
            go_round
            case rel => exact ⟨k + 1, by omega, by go_num⟩
            case measure => simp [intOf]; omega
          · have hkJ' : k = J := by omega
            subst hkJ'
            rw [HJ.out.1] at hnq hck
            simp only [decide_true, Bool.not_true] at hnq
            clear ht ht' hkS hcm hmk
            go_wp2
            go_meet
            case rel => exact ⟨rfl, rfl⟩
      case rest =>
        obtain ⟨rfl, rfl⟩ := hcut
        have hok : ∀ p ∈ S, PtrOk wc p := fun p hp => by
          obtain ⟨t, rfl⟩ := HR.out p hp
          exact HM.out.rec_ok t
        have HC4 : Hid (Calls Yba.prog 4 #[.slice (some ⟨L, 0, none⟩) n n, .pointer r] wc fun e w' => ∃ g c ls, e = .returned (.slice (some ⟨L, g, none⟩) (n - 1) c) ∧ Shape S J n g ls ∧ Ptrs w' L ls ∧ But L wc w') :=
          without_any L n J S r wc HM.out.lst HS.out hn hok hJn HJ.out.1 HJ.out.2
        clear hok hcm hmk
        have hnm : (((n - 1 : Nat) : Int) != (n : Int) - 1) = false := by simp; omega
        have hmk0 := run_mk 0 n (Nat.zero_le _) hn
        simp only [Int.cast_ofNat_Int] at hmk0
        go_wp2_with (go_at_call 4; refine HC4.out.mono ?_)
        rintro e w1 ⟨g, c, ls, rfl, hSh, hPt, hBut⟩
        have HM1 : Hid (Mem w.heap.size L w w1 ls S) := HM.out.but hBut hPt
        have HSh : Hid (Shape S J n g ls) := hSh
        obtain ⟨E, hE⟩ : ∃ E, w1.heap.size = E := ⟨_, rfl⟩
        clear hPt hBut hSh HC4 HM
        have HE0 : Hid (Exp w.heap.size L E w (w1.alloc (.cells (nils n).toArray 24)) ls S J 0) := by
          have := Exp.start HM1.out hE (J := J) (by rw [HS.out]; exact hJn)
          rw [HS.out] at this; exact this
        clear HM1
        go_upto_block 6 with fail
        clear hmk0 hE
        go_cut [14, 15] (fun x _ wc => x = .slice (some ⟨E, 0, none⟩) (n - 1) n ∧ Mem w.heap.size L w wc ls S ∧ L + 1 < E ∧ Ptrs wc E (gone S J))
        case first =>
          obtain ⟨i0, hi0, hz0, hz1, hz2⟩ := info_parts info24
          go_wp2_with fail
          go_loopw [14, 15] (fun x i wr => ∃ k : Nat, k ≤ n ∧ i = .int .i64 k ∧ x = .slice (some ⟨E, 0, none⟩) (cnt J k) n ∧ Exp w.heap.size L E w wr ls S J k) (fun _ i _ => n - (intOf i).toNat)
          case atStart => exact ⟨0, Nat.zero_le _, rfl, rfl, HE0.out⟩
          case round =>
            clear HE0
            obtain ⟨k, hk, rfl, rfl, hX⟩ := hrel
            by_cases hkn : k < n
            · by_cases hkJ : k = J
              · subst hkJ
                have HX : Hid (Exp w.heap.size L E w wr ls S k k) := hX
                clear hX
                go_wp2
                go_roundw
                case rel => exact ⟨k + 1, by omega, by go_num, by simp [cnt], HX.out.skip⟩
                case measure => simp [intOf]; omega
              · have hkS : k < S.length := by rw [HS.out]; exact hkn
                have hck := hX.1.wnt.cell hkS
                have hEl : (filled (gone S J) (cnt J k)).length = n := by simp [filled, gone_length (show J < S.length by rw [HS.out]; exact hJn), HS.out]; have := cnt_le J k; omega
                have hsp : Hid (∀ o j, j < [Value.pointer (S.getD k none)].length → ((wr.alloc o).cell? ⟨E, 0 + cnt J k * 1 + j, none⟩).isSome = true ∧ (wr.alloc o).frozen? ⟨E, 0 + cnt J k * 1 + j, none⟩ = false) := by
                  intro o j hj
                  simp only [List.length_singleton] at hj
                  have hX2 : Ptrs (wr.alloc o) E (filled (gone S J) (cnt J k)) := Blk.alloc hX.2.2 o
                  refine ⟨?_, hX2.frozen _⟩
                  have h1 := cnt_le J k
                  rw [hX2.cell (by rw [hEl]; omega)]; rfl
                have hstep : Hid (∀ o, Exp w.heap.size L E w ((wr.alloc o).setCells E (0 + cnt J k * 1) [.pointer (S.getD k none)]) ls S J (k + 1)) := fun o => hX.add (by rw [HS.out]; exact hJn) hkS hkJ o
                have hEw : E < wr.heap.size := hX.2.2.lt
                have hcs := cnt_succ hkJ
                have hcl := cnt_le J k
                have HCS : Hid (cnt J (k + 1) = cnt J k + 1) := hcs
                clear hX hkS hEl hcs
                generalize cnt J k = m' at *
                generalize S.getD k none = p at *
                go_wp2_with (at_builtin; refine wpList_append_room _ rfl (.tmp 106) (.tmp 111) 38 rfl 24 i0 1 Yba.underlying38 hi0 hz1 E 0 m' n rfl ⟨wr.heap.size, 0, none⟩ 1 1 [.pointer p] rfl rfl ?c1 ?c2 ?c3 ?c4 ?_)
                case c1 =>
                  intro j u hj
                  match j, hj with
                  | 0, hj => simp at hj; subst hj; simp [Addr.add]
                case c2 => intro u hu; simp at hu; subst hu; rfl
                case c3 => omega
                case c4 => exact hsp.out _
                have hst := hstep.out (.cells #[.pointer p] 24)
                have HST := hide hst
                clear hst hsp hstep hck
                rw [Nat.zero_add, Nat.mul_one] at HST
                go_wp2
                go_roundw
                case rel => exact ⟨k + 1, by omega, by go_num, by rw [HCS.out], unhide HST⟩
                case measure => simp [intOf]; omega
            · have hkn' : k = n := by omega
              subst hkn'
              have hJS : J < S.length := by rw [HS.out]; exact hJn
              rw [← HS.out] at hX
              have HX := hide (hX.done hJS)
              clear hX hJS
              go_wp2
              go_meet
              case rel => exact ⟨by simp [cnt, hJn], unhide HX⟩
        case rest =>
          clear HE0
          obtain ⟨rfl, hM, hLE, hPE⟩ := hcut
          have hJS : J < S.length := by rw [HS.out]; exact hJn
          have hnn : ((n - 1 : Nat) : Int) = (n : Int) - 1 := by omega
          have hgl : (gone S J).length = n := by rw [gone_length hJS, HS.out]
          have HX : Hid (Mem w.heap.size L w wc ls S ∧ Ptrs wc E (gone S J)) := ⟨hM, hPE⟩
          have HGL : Hid ((gone S J).length = n) := hgl
          have HNN : Hid (((n - 1 : Nat) : Int) = (n : Int) - 1) := hnn
          clear hM hPE hJS hgl hnn
          go_upto_block 8 with fail
          go_cut [16] (fun _ wc => Mem w.heap.size L w wc ls S ∧ Ptrs wc E (gone S J))
          case first =>
            go_wp2_with fail
            go_loopw [16] (fun i wr => ∃ k : Nat, k ≤ n - 1 ∧ i = .int .i64 k ∧ Mem w.heap.size L w wr ls S ∧ Ptrs wr E (gone S J)) (fun i _ => n - (intOf i).toNat)
            case atStart => exact ⟨0, Nat.zero_le _, rfl, HX.out⟩
            case round =>
              clear HX
              obtain ⟨k, hk, rfl, hM, hPE⟩ := hrel
              by_cases hkn : k < n - 1
              · have hg := HSh.out.2.1 k hkn
                have hcl := hM.lst.cell (k := g + k) (HSh.out.lt hkn)
                rw [hg] at hcl
                have hce := hPE.cell (k := k) (by rw [HGL.out]; omega)
                have hpo := gone_ok hM HR.out J k
                have hnq : ∀ q, (binOp .neq 24 (.pointer ((gone S J).getD k none)) (.pointer ((gone S J).getD k none))).run Yba.prog (wr.drewN q) = .ok (.bool false) (wr.drewN q) := fun q => by
                  have := run_neq_ptr (wr.drewN q) (p := (gone S J).getD k none) (q := (gone S J).getD k none) hpo hpo
                  simpa using this
                generalize (gone S J).getD k none = p at *
                have HX : Hid (Mem w.heap.size L w wr ls S ∧ Ptrs wr E (gone S J)) := ⟨hM, hPE⟩
                clear hM hPE hpo hg
                have hk1 : (k : Int) < ((n - 1 : Nat) : Int) := by omega
                have hk2 : (k : Int) < (n : Int) - 1 := by omega
                go_wp2
                go_quiet (fail)
                go_wp2
                go_roundw
                case rel => exact ⟨k + 1, by omega, by go_num, HX.out.1.drewN _, HX.out.2⟩
                case measure => simp [intOf]; omega
              · have HX : Hid (Mem w.heap.size L w wr ls S ∧ Ptrs wr E (gone S J)) := ⟨hM, hPE⟩
                clear hM hPE
                go_wp2
                go_meet
                case rel => exact HX.out
          case rest =>
            clear HX
            by_cases hJ0 : J = 0
            · obtain ⟨hls, hg1⟩ := HSh.out.2.2.1 hJ0
              subst hJ0
              have hc0 : wc.cell? ⟨L, 0, none⟩ = some (.pointer none) := by
                rw [hcut.1.lst.cell (by rw [HSh.out.1]; omega), hls]
                simp [List.getD, show 0 < S.length by rw [HS.out]; omega]
              have HX : Hid (Mem w.heap.size L w wc ls S) := hcut.1
              have HLS : Hid (ls = S.set 0 none) := hls
              have HG1 : Hid (1 < n → g = 1) := hg1
              clear hcut hls hg1
              go_upto_block 10 with fail
              go_cut [17] (fun _ wc => Mem w.heap.size L w wc ls S)
              case first =>
                go_wp2_with fail
                go_loopw [17] (fun i wr => ∃ k : Nat, 1 ≤ k ∧ k ≤ n ∧ i = .int .i64 k ∧ Mem w.heap.size L w wr ls S) (fun i _ => n - (intOf i).toNat)
                case atStart => exact ⟨1, Nat.le_refl _, h0, rfl, HX.out⟩
                case round =>
                  clear HX hc0
                  obtain ⟨k, hk1, hk, rfl, hM⟩ := hrel
                  by_cases hkn : k < n
                  · have hcl := hM.lst.cell (k := k) (by rw [HSh.out.1]; exact hkn)
                    have hcw := hM.wnt.cell (k := k) (by rw [HS.out]; exact hkn)
                    rw [HLS.out, show (S.set 0 none).getD k none = S.getD k none by simp only [List.getD]; rw [List.getElem?_set_ne (by omega)]] at hcl
                    obtain ⟨t, ht⟩ := HR.out _ (getD_mem (S := S) (k := k) (by rw [HS.out]; exact hkn))
                    have hpo := hM.rec_ok t
                    rw [← ht] at hpo
                    have hnq : ∀ q, (binOp .neq 24 (.pointer (S.getD k none)) (.pointer (S.getD k none))).run Yba.prog (wr.drewN q) = .ok (.bool false) (wr.drewN q) := fun q => by
                      have := run_neq_ptr (wr.drewN q) (p := S.getD k none) (q := S.getD k none) hpo hpo
                      simpa using this
                    generalize S.getD k none = p at *
                    have HX : Hid (Mem w.heap.size L w wr ls S) := hM
                    clear hM hpo ht
                    have hk2 : (k : Int) < (n : Int) := by omega
                    go_wp2
                    go_quiet (fail)
                    go_wp2
                    go_roundw
                    case rel => exact ⟨k + 1, by omega, by omega, by go_num, HX.out.drewN _⟩
                    case measure => simp [intOf]; omega
                  · have HX : Hid (Mem w.heap.size L w wr ls S) := hM
                    clear hM
                    go_wp2
                    go_meet
                    case rel => exact HX.out
              case rest =>
                clear HX hc0
                have HX : Hid (Mem w.heap.size L w wc ls S) := hcut
                have hok1 := hcut.lst.ok 1
                clear hcut
                by_cases hn1 : 1 < n
                · obtain rfl := HG1.out hn1
                  have hi1 : (1 : Int) < (n : Int) := by omega
                  have hi0 : (0 : Int) < ((n - 1 : Nat) : Int) := by omega
                  have hnq : ∀ q, (binOp .neq 40 (.pointer (some ⟨L, 1, none⟩)) (.pointer (some ⟨L, 1, none⟩))).run Yba.prog (wc.drewN q) = .ok (.bool false) (wc.drewN q) := fun q => by
                    have := run_neq_pp (wc.drewN q) hok1 hok1
                    simpa using this
                  clear hok1
                  go_wp2
                  go_quiet (fail)
                  go_wp2
                  go_ret
                  exact ⟨rfl, (HX.out.drewN _).bel⟩
                · have hi1 : decide ((1 : Int) < (n : Int)) = false := by simp; omega
                  clear hok1
                  go_wp2
                  go_quiet (fail)
                  go_wp2
                  go_ret
                  exact ⟨rfl, (HX.out.drewN _).bel⟩
            · obtain ⟨hls, hg0⟩ := HSh.out.2.2.2 (by omega)
              subst hg0
              have hJ1 : (((J : Int)) == 0) = false := by simp; omega
              have HX : Hid (Mem w.heap.size L w wc ls S ∧ Ptrs wc E (gone S J)) := hcut
              have HLS : Hid (ls = gone S J) := hls
              clear hcut hls
              go_upto_block 12 with fail
              go_cut [18] (fun _ wc => Mem w.heap.size L w wc ls S ∧ Ptrs wc E (gone S J))
              case first =>
                go_wp2_with fail
                go_loopw [18] (fun i wr => ∃ k : Nat, k ≤ n - 1 ∧ i = .int .i64 k ∧ Mem w.heap.size L w wr ls S ∧ Ptrs wr E (gone S J)) (fun i _ => n - (intOf i).toNat)
                case atStart => exact ⟨0, Nat.zero_le _, rfl, HX.out⟩
                case round =>
                  clear HX
                  obtain ⟨k, hk, rfl, hM, hPE⟩ := hrel
                  by_cases hkn : k < n - 1
                  · have hcl := hM.lst.cell (k := k) (by rw [HSh.out.1]; omega)
                    rw [HLS.out] at hcl
                    have hce := hPE.cell (k := k) (by rw [HGL.out]; omega)
                    have hpo := gone_ok hM HR.out J k
                    have hnq : ∀ q, (binOp .neq 24 (.pointer ((gone S J).getD k none)) (.pointer ((gone S J).getD k none))).run Yba.prog (wr.drewN q) = .ok (.bool false) (wr.drewN q) := fun q => by
                      have := run_neq_ptr (wr.drewN q) (p := (gone S J).getD k none) (q := (gone S J).getD k none) hpo hpo
                      simpa using this
                    generalize (gone S J).getD k none = p at *
                    have HX : Hid (Mem w.heap.size L w wr ls S ∧ Ptrs wr E (gone S J)) := ⟨hM, hPE⟩
                    clear hM hPE hpo
                    have hk1 : (k : Int) < ((n - 1 : Nat) : Int) := by omega
                    have hk2 : (k : Int) < (n : Int) - 1 := by omega
                    have hk3 : (k : Int) < (n : Int) := by omega
                    go_wp2
                    go_quiet (fail)
                    go_wp2
                    go_roundw
                    case rel => exact ⟨k + 1, by omega, by go_num, HX.out.1.drewN _, HX.out.2⟩
                    case measure => simp [intOf]; omega
                  · have HX : Hid (Mem w.heap.size L w wr ls S ∧ Ptrs wr E (gone S J)) := ⟨hM, hPE⟩
                    clear hM hPE
                    go_wp2
                    go_meet
                    case rel => exact HX.out
              case rest =>
                clear HX
                have HX : Hid (Mem w.heap.size L w wc ls S) := hcut.1
                have hcl := hcut.1.lst.cell (k := n - 1) (by rw [HSh.out.1]; omega)
                rw [HLS.out, show (gone S J).getD (n - 1) none = none by
                  have hl : (S.eraseIdx J).length = n - 1 := by rw [List.length_eraseIdx, HS.out, if_pos hJn]
                  simp only [List.getD, gone]
                  rw [List.getElem?_append_right (by omega), hl]
                  simp] at hcl
                have hok0 := hcut.1.lst.ok 0
                have hnq : ∀ q, (binOp .eql 40 (.pointer (some ⟨L, 0, none⟩)) (.pointer (some ⟨L, 0, none⟩))).run Yba.prog (wc.drewN q) = .ok (.bool true) (wc.drewN q) := fun q => by
                  have := run_eql_pp (wc.drewN q) hok0 hok0
                  simpa using this
                clear hcut hok0
                have hi0 : (0 : Int) < ((n - 1 : Nat) : Int) := by omega
                have hi1 : (0 : Int) < (n : Int) := by omega
                go_wp2
                go_quiet (fail)
                go_wp2
                go_ret
                exact ⟨rfl, (HX.out.drewN _).bel⟩
end Go.Proofs.Ybulkejek
