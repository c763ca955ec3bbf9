/- The law's own walk. -/
import Derived.Test.YbulkejacFmtNeq
namespace Go.Proofs.YbulkejacFmt
open Go.RowKit Go.Extern.Stop Go.Stop Go.Extern
set_option linter.unusedVariables false

theorem heldOf_ids {e : Ent} {B : Nat} (h : ∀ x ∈ e.bs, x.id.size ≤ B) : ∀ x ∈ heldOf e, x.id.size ≤ B := by
  unfold heldOf
  split
  · intro x hx
    simp only [List.mem_singleton] at hx
    subst hx
    exact Nat.zero_le _
  · exact h
theorem bk_mem {l : List Bk} {k : Nat} (hk : k < l.length) : l.getD k zbk ∈ l := by simp [List.getD, hk]

set_option maxHeartbeats 2000000 in
set_option maxRecDepth 100000 in
theorem walk_main (F : Interp) (ao : Option Addr) (n c : Nat) (es : List Ent) (sel : Int) (id : ByteArray) (a : Addr) (s : ByteArray) (w : World) (hF : F.answers w.tape) (hg : w.cell? ⟨0, 0, none⟩ = some (.iface 82 (.pointer (some a)))) (hs : w.cell? a = some (.string s))
    (hr : EntRow w ao es) (hl : es.length = n) (hn : n ≤ 4398046511104) (hbs : ∀ e ∈ es, ∀ x ∈ e.bs, x.id.size ≤ 140737488351232) (hid : id.size ≤ maxLen) (hs0 : 0 ≤ sel) (hs1 : sel ≤ 255) :
    Calls Ybaf.prog 3 #[.slice ao n c, .int .u8 sel, .string id] w fun e w' => e = .returned (.bool true) ∧ Below w.heap.size w w' := by
  have HF := hide hF
  have HG := hide hg
  have HS := hide hs
  have HR := hide hr
  have HL := hide hl
  have HID := hide hid
  have HBS := hide hbs
  clear hbs
  clear hF hg hs hr hl hid
  go_enter Ybaf.func3, Ybaf.ntmps3
  go_upto_block 0 with fail
  go_cut [7] (fun v wc => wc = w ∧ ∃ z : Int, v = .int .i64 z)
  case first =>
    go_wp2_with fail
    go_loopg [7, 8, 28] n (fun g t _ i wr => wr = w ∧ ∃ k : Nat, k ≤ n ∧ g = n - k ∧ i = .int .i64 k ∧ ∃ z : Int, t = .int .i64 z)
    case atStart => exact ⟨rfl, 0, Nat.zero_le _, by omega, rfl, _, rfl⟩
    case round =>
      obtain ⟨hwr, k, hk, hgk, rfl, z, rfl⟩ := hrel
      subst hwr
      by_cases hkn : k < n
      · have hki : (k : Int) < (n : Int) := by omega
        obtain ⟨b, off, rfl, hb, hc0, hc1, _, _, _⟩ := HR.out.at (k := k) (by rw [HL.out]; exact hkn)
        generalize es.getD k noEnt = e at *
        obtain ⟨eid, ea, ec, bs⟩ := e
        simp only at hc0 hc1
        generalize bs.length = L at *
        go_wp2
        go_roundg (n - (k + 1))
        case measure => omega
        case rel => exact ⟨rfl, k + 1, by omega, rfl, by go_num, _, rfl⟩
      · have hkn' : k = n := by omega
        go_wp2
        go_meet
        case rel => exact ⟨rfl, z, rfl⟩
  case rest =>
    obtain ⟨hwc, z, rfl⟩ := hcut
    obtain rfl := hwc.symm
    by_cases hz : (1048576 : Int) < z
    · go_wp2
      go_ret
      exact ⟨rfl, Below.refl _ _⟩
    · have hz' : z ≤ 1048576 := by omega
      have hmm := @run_makeMap Ybaf.prog
      have HC0 : Hid (Cal w ((w.alloc (.map #[] 0)).alloc (.cells #[.int .i32 0, .int .u32 0, .int .u32 0, .int .u32 0, .int .i32 0, .int .i32 0, .pointer none, .map none, .map none, .map (some w.heap.size), .nilIface] 46)) (w.heap.size + 1) w.heap.size es 0) :=
        Cal.start es (((Below.refl _ _).alloc (Nat.le_refl _) _).alloc (by simp) _) (Nat.le_refl _) (by omega) (by omega)
          (by simp)
          ((World.ownsMap_made w _ _ _).alloc _)
      go_upto_block 2 with fail
      go_cut [10] (fun _ wc => Cal w wc (w.heap.size + 1) w.heap.size es n)
      case first =>
        go_wp2_with fail
        go_loopg [10, 11, 12, 13, 47] n (fun g _ _ _ _ i wr => ∃ k : Nat, k ≤ n ∧ g = n - k ∧ i = .int .i64 k ∧ Cal w wr (w.heap.size + 1) w.heap.size es k)
        case atStart => exact ⟨0, Nat.zero_le _, by omega, rfl, unhide HC0⟩
        case round =>
          clear HC0 hmm
          obtain ⟨k, hk, hgk, rfl, hcal⟩ := hrel
          generalize wr = W0 at *
          have HCAL := hide hcal
          by_cases hkn : k < n
          · have hki : (k : Int) < (n : Int) := by omega
            obtain ⟨b, off, rfl, hb, hc0, hc1, hrow, hlen, hids⟩ := (HR.out.keep hcal.bel).at (k := k) (by rw [HL.out]; exact hkn)
            have HC4 := hide (held4_any (es.getD k noEnt) W0 hrow hlen)
            have HST : Hid (∀ w1 pb bb, Below W0.heap.size W0 w1 → Blk w1 pb (ptrCells bb (heldOf (es.getD k noEnt)).length (heldOf (es.getD k noEnt)).length) 49 → Blk w1 bb (rowCells (heldOf (es.getD k noEnt))) 51 →
                ∃ w2, (Instr.mapUpdate 27 (.map (some w.heap.size)) (.string (es.getD k noEnt).id) (.slice (some ⟨pb, 0, none⟩) (heldOf (es.getD k noEnt)).length (heldOf (es.getD k noEnt)).length)).run Ybaf.prog w1 = .ok () w2 ∧ Cal w w2 (w.heap.size + 1) w.heap.size es (k + 1)) :=
              fun w1 pb bb hb1 hp hrr => HCAL.out.step hb1 (by unfold maxLen; omega) hids hp hrr
            have hpos := heldOf_pos (es.getD k noEnt)
            have hle := heldOf_le _ hlen
            clear hrow hcal
            generalize heldOf (es.getD k noEnt) = hs at *
            generalize (es.getD k noEnt).id = eid at *
            generalize (es.getD k noEnt).bs.length = L at *
            generalize (es.getD k noEnt).ao = ea at *
            generalize (es.getD k noEnt).cap = ec at *
            have HC9 := hide (HCAL.out.cal)
            have hcbl := HCAL.out.cbl
            go_wp2_with fail
            refine HC4.out.mono ?_
            rintro x w1 ⟨g1, rfl, hg1, hB1, hb1⟩
            have hmk := run_mk48 hs.length hle w1 g1
            have HX0 : Hid (Blk (w1.alloc (.cells (ptrCells g1 hs.length 0).toArray 49)) w1.heap.size (ptrCells g1 hs.length 0) 49 ∧ Blk (w1.alloc (.cells (ptrCells g1 hs.length 0).toArray 49)) g1 (rowCells hs) 51 ∧ Below W0.heap.size W0 (w1.alloc (.cells (ptrCells g1 hs.length 0).toArray 49))) :=
              ⟨Blk.new _ _ _, hB1.alloc _, hb1.alloc hb1.size _⟩
            have hg1l := hB1.lt
            have hwsz := hb1.size
            clear hB1 hb1 HC4
            go_wp2_with fail
            generalize hpb : w1.heap.size = pb at *
            generalize w1.alloc (.cells (ptrCells g1 hs.length 0).toArray 49) = w2 at *
            clear hmk
            go_loopg [13, 60] hs.length (fun g _ i wx => ∃ j : Nat, j ≤ hs.length ∧ g = hs.length - j ∧ i = .int .i64 j ∧ Blk wx pb (ptrCells g1 hs.length j) 49 ∧ Blk wx g1 (rowCells hs) 51 ∧ Below W0.heap.size W0 wx)
            case atStart => exact ⟨0, Nat.zero_le _, by omega, rfl, unhide HX0⟩
            case round =>
              clear HX0
              obtain ⟨j, hj, hgj, rfl, hX1, hX2, hX3⟩ := hrel
              by_cases hjn : j < hs.length
              · have hji : (j : Int) < ((hs.length : Nat) : Int) := by omega
                have d0 : wr.cell? ⟨pb, j, none⟩ = some (.pointer none) := by rw [hX1.cell, ptrCells_get hjn, if_neg (by omega)]
                have df := hX1.frozen
                have HY1 := hide (hX1.setCell j (.pointer (some ⟨g1, j * 6, none⟩)))
                rw [ptrCells_set hjn] at HY1
                have HY2 := hide (hX2.setCell_ne (a := ⟨pb, j, none⟩) (by simp; omega) (.pointer (some ⟨g1, j * 6, none⟩)))
                have HY3 := hide (hX3.setCell (p := ⟨pb, j, none⟩) (by simp; omega) (.pointer (some ⟨g1, j * 6, none⟩)))
                clear hX1 hX2 hX3 hc0 hc1
                go_wp2
                go_roundg (hs.length - (j + 1))
                case measure => omega
                case rel => exact ⟨j + 1, by omega, rfl, by go_num, unhide HY1, unhide HY2, unhide HY3⟩
              · have hjn' : j = hs.length := by omega
                subst hjn'
                obtain ⟨w3, hup, hcal3⟩ := HST.out wr.drew pb g1 hX3.drew hX1 hX2
                have HC3 := hide hcal3
                have c9 := (hX3.cell (p := ⟨w.heap.size + 1, 9, none⟩) hcbl).trans HC9.out
                have e0 := (hX3.cell (p := ⟨b, off + k * 2, none⟩) hb).trans hc0
                clear hcal3 hX1 hX2 hX3 hc0 hc1
                go_wp2
                go_region
                go_wp2
                go_roundg (n - (k + 1))
                case measure => omega
                case rel => exact ⟨k + 1, by omega, rfl, by go_num, unhide HC3⟩
          · have hkn' : k = n := by omega
            subst hkn'
            clear hcal
            go_wp2
            go_meet
            case rel => exact unhide HCAL
      case rest =>
        have HCAL := hide hcut
        clear hcut hmm HC0
        generalize wc = W at *
        go_upto_if 83 with fail
        go_cut [2] (fun v wc => wc = W ∧ ∃ id' : ByteArray, v = .string id' ∧ id'.size ≤ maxLen)
        case first =>
          by_cases hn0 : 0 < n
          · obtain ⟨i, hi⟩ : ∃ i : Nat, sel % ((n : Int) + 1) = (i : Int) := ⟨(sel % ((n : Int) + 1)).toNat, by have := Int.emod_nonneg sel (show ((n : Int) + 1) ≠ 0 by omega); omega⟩
            by_cases hin : i < n
            · have hii : (i : Int) < (n : Int) := by omega
              obtain ⟨b, off, rfl, hb, hc0, hc1, _, _, hids⟩ := (HR.out.keep HCAL.out.bel).at (k := i) (by rw [HL.out]; exact hin)
              have HI := hide hids
              clear hids hc1
              generalize (es.getD i noEnt).id = eid at *
              go_wp2
              go_meet
              case rel => exact ⟨rfl, eid, rfl, unhide HI⟩
            · have hii : (n : Int) ≤ (i : Int) := by omega
              go_wp2
              go_meet
              case rel => exact ⟨rfl, id, rfl, unhide HID⟩
          · have hn0' : (n : Int) ≤ 0 := by omega
            clear hn0
            go_wp2
            go_meet
            case rel => exact ⟨rfl, id, rfl, unhide HID⟩
        case rest =>
          obtain ⟨hwc, id', rfl, hid'⟩ := hcut
          subst hwc
          have HID' := hide hid'
          clear hid' HID
          generalize wc = W at *
          go_upto_block 6 with fail
          go_cut [15] (fun v wc => wc = W ∧ v = .int .i64 (match lastTo es n id'.data.toList with | none => -1 | some i => (i : Int)))
          case first =>
            go_wp2_with fail
            go_loopg [15, 16, 101] n (fun g f _ i wr => wr = W ∧ ∃ k : Nat, k ≤ n ∧ g = n - k ∧ i = .int .i64 k ∧ f = .int .i64 (match lastTo es k id'.data.toList with | none => -1 | some i => (i : Int)))
            case atStart => exact ⟨rfl, 0, Nat.zero_le _, by omega, rfl, rfl⟩
            case round =>
              obtain ⟨hwr, k, hk, hgk, rfl, rfl⟩ := hrel
              subst hwr
              by_cases hkn : k < n
              · have hki : (k : Int) < (n : Int) := by omega
                obtain ⟨b, off, rfl, hb, hc0, hc1, _, _, _⟩ := (HR.out.keep HCAL.out.bel).at (k := k) (by rw [HL.out]; exact hkn)
                have HLT : Hid (lastTo es (k + 1) id'.data.toList = if (es.getD k noEnt).id.data.toList = id'.data.toList then some k else lastTo es k id'.data.toList) := rfl
                clear hc1
                generalize (es.getD k noEnt).id = eid at *
                generalize hfn : (match lastTo es k id'.data.toList with | none => (-1 : Int) | some i => (i : Int)) = fn at *
                have HFN := hide hfn
                clear hfn
                by_cases he : eid.data.toList = id'.data.toList
                · have ht : (eid.toList == id'.toList) = true := by rw [ByteArray.toList_eq, ByteArray.toList_eq, he]; exact beq_self_eq_true _
                  have HE := hide he
                  clear he
                  go_wp2
                  go_roundg (n - (k + 1))
                  case measure => omega
                  case rel => exact ⟨rfl, k + 1, by omega, rfl, by go_num, by rw [HLT.out, if_pos HE.out]⟩
                · have ht : (eid.toList == id'.toList) = false := by rw [ByteArray.toList_eq, ByteArray.toList_eq]; exact beq_false_of_ne he
                  have HE := hide he
                  clear he
                  go_wp2
                  go_roundg (n - (k + 1))
                  case measure => omega
                  case rel => exact ⟨rfl, k + 1, by omega, rfl, by go_num, by rw [HLT.out, if_neg HE.out, HFN.out]⟩
              · have hkn' : k = n := by omega
                subst hkn'
                generalize hfn : (match lastTo es k id'.data.toList with | none => (-1 : Int) | some i => (i : Int)) = fn at *
                have HFN := hide hfn
                clear hfn
                go_wp2
                go_meet
                case rel => exact ⟨rfl, rfl⟩
          case rest =>
            have hg0 := (HCAL.out.bel.cell (p := ⟨0, 0, none⟩) (World.block_lt_of_cell? _ _ HG.out)).trans HG.out
            have hsa := (HCAL.out.bel.cell (World.block_lt_of_cell? _ _ HS.out)).trans HS.out
            have HFW : Hid (F.answers W.tape) := by
              have := HF.out
              rwa [← HCAL.out.bel.tape] at this
            cases hlt : lastTo es n id'.data.toList with
            | none =>
              rw [hlt] at hcut
              obtain ⟨hwc, hv⟩ := hcut
              subst hwc
              simp only at hv
              subst hv
              have HC5 := hide (held5_none F (w.heap.size + 1) w.heap.size id' a s wc HFW.out hg0 hsa HCAL.out.cal (fun w2 hb2 => HCAL.out.lacks HID'.out hlt w2 hb2))
              have h0 : 0 < wc.heap.size := World.block_lt_of_cell? _ _ hg0
              go_wp2_with fail
              refine HC5.out.mono ?_
              rintro x w1 ⟨N, rfl, hN, hNl, hb1⟩
              have hg1 := (hb1.cell (p := ⟨0, 0, none⟩) h0).trans hg0
              have h01 := Nat.lt_of_lt_of_le h0 hb1.size
              have HBW := hide (HCAL.out.bel.trans (hb1.mono HCAL.out.bel.size))
              clear hb1 hg0 hsa HC5
              go_wp2_with fail
              refine (is_wrap_same N 0 a _ ((World.cell?_alloc_lt _ _ _ hNl).trans hN)).mono ?_
              rintro x w2 ⟨rfl, hw2⟩
              subst hw2
              have HBF : Hid (Below w.heap.size w (w1.alloc (.cells #[.string noStr, .string noStr, .slice none 0 0] 53))) := HBW.out.alloc HBW.out.size _
              have heql := fun w a n c => Lib.run_eql_slice_nil (P := Ybaf.prog) w 23 51 a n c 0 0 Ybaf.underlying23
              go_wp2
              go_ret
              exact ⟨rfl, unhide HBF⟩
            | some i =>
              rw [hlt] at hcut
              obtain ⟨hwc, hv⟩ := hcut
              subst hwc
              simp only at hv
              subst hv
              generalize wc = W at *
              have hin := (lastTo_lt hlt).1
              obtain ⟨b, off, rfl, hb, hc0, hc1, hrow, hlen, hids⟩ := (HR.out.keep HCAL.out.bel).at (k := i) (by rw [HL.out]; exact hin)
              obtain ⟨pb, bb, hAt, hok⟩ := HCAL.out.finds HID'.out hlt hlen
              have HC5 := hide (held5_found (w.heap.size + 1) w.heap.size pb bb id' (heldOf (es.getD i noEnt)) W hAt hok)
              have HC4 : Hid (∀ w0, Below W.heap.size W w0 → Calls Ybaf.prog 4 #[.agg #[.string (es.getD i noEnt).id, .slice (es.getD i noEnt).ao (es.getD i noEnt).bs.length (es.getD i noEnt).cap]] w0 fun x w' => ∃ g, x = .returned (.slice (some ⟨g, 0, none⟩) (heldOf (es.getD i noEnt)).length (heldOf (es.getD i noEnt)).length) ∧ w0.heap.size ≤ g ∧ Blk w' g (rowCells (heldOf (es.getD i noEnt))) 51 ∧ Below w0.heap.size w0 w') :=
                fun w0 hb0 => held4_any (es.getD i noEnt) w0 (hrow.keep hb0) hlen
              have HAT := hide hAt
              have hle := hAt.le
              have HIDS := hide (heldOf_ids (HBS.out _ (getD_mem (k := i) (by rw [HL.out]; exact hin))))
              have hii : (i : Int) < (n : Int) := by omega
              clear hrow hok hAt hg0 hsa HFW hlt hids hlen
              generalize heldOf (es.getD i noEnt) = hs at *
              generalize (es.getD i noEnt).id = eid at *
              generalize (es.getD i noEnt).bs.length = L at *
              generalize (es.getD i noEnt).ao = ea at *
              generalize (es.getD i noEnt).cap = ec at *
              have hpos : (0 : Int) < ((hs.length : Nat) : Int) := by have := HAT.out.pos; omega
              obtain ⟨sj, hsj⟩ : ∃ sj, (hs.getD 0 zbk).subj = sj := ⟨_, rfl⟩
              rw [hsj] at HC5
              have HSJ := hide hsj
              clear hsj
              go_wp2_with fail
              refine HC5.out.mono ?_
              rintro x w1 ⟨g, rfl, hg, hBg, hb1⟩
              have hbl1 := Nat.lt_of_lt_of_le hb hb1.size
              have d0 := (hb1.cell (p := ⟨b, off + i * 2, none⟩) hb).trans hc0
              have d1 := (hb1.cell (p := ⟨b, off + i * 2 + 1, none⟩) hb).trans hc1
              have hB2 : Below W.heap.size W (w1.alloc (.cells #[.string id', .string sj, .slice (some ⟨g, 0, none⟩) hs.length hs.length] 53)) := hb1.alloc hb1.size _
              have HC4' := hide (HC4.out _ hB2)
              have HQ := hide (Blk.new w1 [.string id', .string sj, .slice (some ⟨g, 0, none⟩) hs.length hs.length] 53)
              have HGB := hide (hBg.alloc (.cells #[.string id', .string sj, .slice (some ⟨g, 0, none⟩) hs.length hs.length] 53))
              have HBB := hide hB2
              have hgl := hBg.lt
              have hsz2 : (w1.alloc (.cells #[.string id', .string sj, .slice (some ⟨g, 0, none⟩) hs.length hs.length] 53)).heap.size = w1.heap.size + 1 := by simp
              clear hc0 hc1 hb1 hBg hB2 HC5 HC4
              go_wp2_with fail
              refine HC4'.out.mono ?_
              rintro x w3 ⟨h, rfl, hh, hBh, hb3⟩
              rw [hsz2] at hh
              have hQ3 := HQ.out.below hb3 (by rw [hsz2]; omega)
              have hG3 := HGB.out.below hb3 (by rw [hsz2]; omega)
              have hB3 : Below W.heap.size W w3 := HBB.out.trans (hb3.mono HBB.out.size)
              generalize w1.heap.size = qb at *
              have HQ3 := hide hQ3
              have HG3 := hide hG3
              have HH3 := hide hBh
              have HB3 := hide hB3
              have q0 := hQ3.cell 0
              have q1 := hQ3.cell 1
              have q2 := hQ3.cell 2
              have s4 : w3.cell? ⟨h, 4, none⟩ = some (.string sj) := by
                have := bkCells6 hBh HAT.out.pos 4 (by omega)
                rw [Nat.zero_mul, Nat.zero_add] at this
                rw [this, ← HSJ.out]; rfl
              have t0 : (id'.toList != id'.toList) = false := by simp
              have t1 : (sj.toList != sj.toList) = false := by simp
              have t2 : (((hs.length : Nat) : Int) != ((hs.length : Nat) : Int)) = false := by simp
              simp only [List.getElem?_cons_zero, List.getElem?_cons_succ] at q0 q1 q2
              clear hQ3 hG3 hBh hB3 hb3 HBB HGB HQ HC4' hsz2 d0 d1 hbl1
              go_upto_block 8 with go_quiet (fail)
              go_cut [20] (fun _ wc => ∃ q, wc = w3.drewN q)
              case first =>
                go_wp2_with fail
                go_loopg [20, 172] hs.length (fun gh _ i wr => ∃ j : Nat, j ≤ hs.length ∧ gh = hs.length - j ∧ i = .int .i64 j ∧ ∃ q, wr = w3.drewN q)
                case atStart => exact ⟨0, Nat.zero_le _, by omega, rfl, _, rfl⟩
                case round =>
                  obtain ⟨j, hj, hgj, rfl, q5, hwr⟩ := hrel
                  subst hwr
                  by_cases hjn : j < hs.length
                  · have hji : (j : Int) < ((hs.length : Nat) : Int) := by omega
                    have x0 := bkCells6 HG3.out hjn 0 (by omega)
                    have x1 := bkCells6 HG3.out hjn 1 (by omega)
                    have x2 := bkCells6 HG3.out hjn 2 (by omega)
                    have x3 := bkCells6 HG3.out hjn 3 (by omega)
                    have x4 := bkCells6 HG3.out hjn 4 (by omega)
                    have x5 := bkCells6 HG3.out hjn 5 (by omega)
                    have y0 := bkCells6 HH3.out hjn 0 (by omega)
                    have y1 := bkCells6 HH3.out hjn 1 (by omega)
                    have y2 := bkCells6 HH3.out hjn 2 (by omega)
                    have y3 := bkCells6 HH3.out hjn 3 (by omega)
                    have y4 := bkCells6 HH3.out hjn 4 (by omega)
                    have y5 := bkCells6 HH3.out hjn 5 (by omega)
                    generalize hs.getD j zbk = bk at *
                    obtain ⟨bi, bo, bst, ben, bsu, bit⟩ := bk
                    simp only [bkCell, Nat.add_zero] at x0 x1 x2 x3 x4 x5 y0 y1 y2 y3 y4 y5
                    have hneq := run_neq51 ⟨bi, bo, bst, ben, bsu, bit⟩
                    have heqi := run_eqIn51 ⟨bi, bo, bst, ben, bsu, bit⟩
                    have hgd := guard51
                    simp only [bkVal] at hneq heqi
                    clear q0 q1 s4 t0 t1 t2
                    go_wp2_with go_quiet (fail)
                    go_roundg (hs.length - (j + 1))
                    case measure => omega
                    case rel => exact ⟨j + 1, by omega, rfl, by go_num, _, rfl⟩
                  · have hjn' : j = hs.length := by omega
                    go_wp2
                    go_meet
                    case rel => exact ⟨_, rfl⟩
              case rest =>
                obtain ⟨q5, hwc⟩ := hcut
                subst hwc
                clear t0 t1 t2 q0 q1 s4
                generalize hW4 : w3.drewN q5 = W4 at *
                have HQ4 : Hid (Blk W4 qb [.string id', .string sj, .slice (some ⟨g, 0, none⟩) hs.length hs.length] 53) := hW4 ▸ HQ3.out.drewN q5
                have HG4 : Hid (Blk W4 g (rowCells hs) 51) := hW4 ▸ HG3.out.drewN q5
                have HH4 : Hid (Blk W4 h (rowCells hs) 51) := hW4 ▸ HH3.out.drewN q5
                have HB4 : Hid (Below W.heap.size W W4) := hW4 ▸ below_drewN HB3.out q5
                have q2' : W4.cell? ⟨qb, 2, none⟩ = some (.slice (some ⟨g, 0, none⟩) hs.length hs.length) := HQ4.out.cell 2
                clear q2 HQ3 HG3 HH3 HB3 hW4
                go_upto_block 10 with fail
                go_cut [21] (fun _ wc => But g W4 wc)
                case first =>
                  go_wp2_with fail
                  go_loopg [21, 189] hs.length (fun gh _ i wr => ∃ j : Nat, j ≤ hs.length ∧ gh = hs.length - j ∧ i = .int .i64 j ∧ But g W4 wr ∧ ∃ l : List Bk, l.length = hs.length ∧ Blk wr g (rowCells l) 51)
                  case atStart => exact ⟨0, Nat.zero_le _, by omega, rfl, But.refl _ _, hs, rfl, HG4.out⟩
                  case round =>
                    obtain ⟨j, hj, hgj, rfl, hbut, l, hll, hBl⟩ := hrel
                    have HBUT := hide hbut
                    by_cases hjn : j < hs.length
                    · have hji : (j : Int) < ((hs.length : Nat) : Int) := by omega
                      have q2r : wr.cell? ⟨qb, 2, none⟩ = some (.slice (some ⟨g, 0, none⟩) hs.length hs.length) := (HQ4.out.but hbut (by omega)).cell 2
                      have y0 := bkCells6 (HH4.out.but hbut (by omega)) hjn 0 (by omega)
                      have r0 := bkCells6 hBl (k := j) (by omega) 0 (by omega)
                      have r1 := bkCells6 hBl (k := j) (by omega) 1 (by omega)
                      have r2 := bkCells6 hBl (k := j) (by omega) 2 (by omega)
                      have r3 := bkCells6 hBl (k := j) (by omega) 3 (by omega)
                      have r4 := bkCells6 hBl (k := j) (by omega) 4 (by omega)
                      have r5 := bkCells6 hBl (k := j) (by omega) 5 (by omega)
                      have hfz := hBl.frozen
                      have HNX : Hid (∀ nb : Bk, Blk ((((((wr.setCell ⟨g, j * 6, none⟩ (.string nb.id)).setCell ⟨g, j * 6 + 1, none⟩ (.string nb.obj)).setCell ⟨g, j * 6 + 2, none⟩ (.int .i64 nb.st)).setCell ⟨g, j * 6 + 3, none⟩ (.int .i64 nb.en)).setCell ⟨g, j * 6 + 4, none⟩ (.string nb.subj)).setCell ⟨g, j * 6 + 5, none⟩ (.string nb.itin)) g (rowCells (l.set j nb)) 51) := fun nb => Blk.set6 hBl (by omega) nb
                      have HBX : Hid (∀ v : ByteArray, But g W4 ((((((wr.setCell ⟨g, j * 6, none⟩ (.string v)).setCell ⟨g, j * 6 + 1, none⟩ (.string noStr)).setCell ⟨g, j * 6 + 2, none⟩ (.int .i64 0)).setCell ⟨g, j * 6 + 3, none⟩ (.int .i64 0)).setCell ⟨g, j * 6 + 4, none⟩ (.string noStr)).setCell ⟨g, j * 6 + 5, none⟩ (.string noStr)).drew) :=
                        fun v => (((((((hbut.setCell (j * 6) (.string v)).setCell (j * 6 + 1) (.string noStr)).setCell (j * 6 + 2) (.int .i64 0)).setCell (j * 6 + 3) (.int .i64 0)).setCell (j * 6 + 4) (.string noStr)).setCell (j * 6 + 5) (.string noStr))).drew
                      have HNY : Hid (∀ v : ByteArray, ∃ l : List Bk, l.length = hs.length ∧ Blk ((((((wr.setCell ⟨g, j * 6, none⟩ (.string v)).setCell ⟨g, j * 6 + 1, none⟩ (.string noStr)).setCell ⟨g, j * 6 + 2, none⟩ (.int .i64 0)).setCell ⟨g, j * 6 + 3, none⟩ (.int .i64 0)).setCell ⟨g, j * 6 + 4, none⟩ (.string noStr)).setCell ⟨g, j * 6 + 5, none⟩ (.string noStr)).drew g (rowCells l) 51) :=
                        fun v => ⟨l.set j ⟨v, noStr, 0, 0, noStr, noStr⟩, by rw [List.length_set]; exact hll, (HNX.out ⟨v, noStr, 0, 0, noStr, noStr⟩).drew⟩
                      clear HNX
                      have HLL := hide hll
                      clear hbut hBl q2'
                      generalize l.getD j zbk = ob at *
                      have hsm := HIDS.out _ (bk_mem hjn)
                      generalize hs.getD j zbk = bk at *
                      obtain ⟨bi, bo, bst, ben, bsu, bit⟩ := bk
                      simp only at hsm
                      have hsm2 : ¬ 9223372036854775807 < bi.size + 1 := by omega
                      simp only [bkCell, Nat.add_zero] at y0 r0 r1 r2 r3 r4 r5
                      go_wp2
                      go_region
                      go_wp2
                      go_roundg (hs.length - (j + 1))
                      case measure => omega
                      case rel => exact ⟨j + 1, by omega, rfl, by go_num, HBX.out _, HNY.out _⟩
                    · have hjn' : j = hs.length := by omega
                      clear hbut
                      go_wp2
                      go_meet
                      case rel => exact unhide HBUT
                case rest =>
                  have hbut := hcut
                  have HBW : Hid (Below W.heap.size W wc) := HB4.out.trans (hbut.below (by omega))
                  have hAt := HAT.out
                  have c9 := (HBW.out.cell (p := ⟨w.heap.size + 1, 9, none⟩) hAt.cbl).trans hAt.cal
                  have hlook := hAt.look wc HBW.out
                  have HP5 := hide (hAt.ptrs.below HBW.out hAt.ptrs.lt)
                  have HR5 := hide (hAt.row.below HBW.out hAt.row.lt)
                  have HH5 := hide (HH4.out.but hbut (by omega))
                  have t2 : (((hs.length : Nat) : Int) != ((hs.length : Nat) : Int)) = false := by simp
                  clear hbut hcut hAt q2' HQ4 HG4 HH4 HB4
                  generalize wc = W5 at *
                  go_wp2_with fail
                  clear hlook c9 t2
                  go_loopg [23, 217] hs.length (fun gh _ i wr => ∃ j : Nat, j ≤ hs.length ∧ gh = hs.length - j ∧ i = .int .i64 j ∧ ∃ q, wr = W5.drewN q)
                  case atStart => exact ⟨0, Nat.zero_le _, by omega, rfl, 0, rfl⟩
                  case round =>
                    obtain ⟨j, hj, hgj, rfl, q7, hwr⟩ := hrel
                    subst hwr
                    by_cases hjn : j < hs.length
                    · have hji : (j : Int) < ((hs.length : Nat) : Int) := by omega
                      have pj : W5.cell? ⟨pb, j, none⟩ = some (.pointer (some ⟨bb, j * 6, none⟩)) := by rw [HP5.out.cell, ptrCells_get hjn, if_pos hjn]
                      have x0 := bkCells6 HR5.out hjn 0 (by omega)
                      have x1 := bkCells6 HR5.out hjn 1 (by omega)
                      have x2 := bkCells6 HR5.out hjn 2 (by omega)
                      have x3 := bkCells6 HR5.out hjn 3 (by omega)
                      have x4 := bkCells6 HR5.out hjn 4 (by omega)
                      have x5 := bkCells6 HR5.out hjn 5 (by omega)
                      have y0 := bkCells6 HH5.out hjn 0 (by omega)
                      have y1 := bkCells6 HH5.out hjn 1 (by omega)
                      have y2 := bkCells6 HH5.out hjn 2 (by omega)
                      have y3 := bkCells6 HH5.out hjn 3 (by omega)
                      have y4 := bkCells6 HH5.out hjn 4 (by omega)
                      have y5 := bkCells6 HH5.out hjn 5 (by omega)
                      generalize hs.getD j zbk = bk at *
                      obtain ⟨bi, bo, bst, ben, bsu, bit⟩ := bk
                      simp only [bkCell, Nat.add_zero] at x0 x1 x2 x3 x4 x5 y0 y1 y2 y3 y4 y5
                      have hneq := run_neq51 ⟨bi, bo, bst, ben, bsu, bit⟩
                      have heqi := run_eqIn51 ⟨bi, bo, bst, ben, bsu, bit⟩
                      have hgd := guard51
                      simp only [bkVal] at hneq heqi
                      go_wp2_with go_quiet (fail)
                      go_roundg (hs.length - (j + 1))
                      case measure => omega
                      case rel => exact ⟨j + 1, by omega, rfl, by go_num, _, rfl⟩
                    · have hjn' : j = hs.length := by omega
                      have HBF : Hid (Below w.heap.size w (W5.drewN q7)) := below_drewN (HCAL.out.bel.trans (HBW.out.mono HCAL.out.bel.size)) q7
                      go_wp2
                      go_ret
                      exact ⟨rfl, unhide HBF⟩
end Go.Proofs.YbulkejacFmt
