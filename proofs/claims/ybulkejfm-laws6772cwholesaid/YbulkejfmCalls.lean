/- selects and its model, by contract. -/
import Derived.Test.YbulkejfmBase
import Derived.Deep.CutBlock
import Derived.Deep.DeepCutAuto
import Derived.Deep.LoopGhost
namespace Go.Proofs.Ybulkejfm
open Go.RowKit
set_option linter.unusedVariables false

/-- One entry: its bank, its list of numbers and where that lies. -/
structure Sel where
  hash : Int
  ao : Option Addr
  cap : Nat
  xs : List Int
def noSel : Sel := ⟨0, none, 0, []⟩

/-- The slice at ao holds these numbers, one a cell. -/
def Row (w : World) (ao : Option Addr) (xs : List Int) : Prop := xs = [] ∨ ∃ b off, ao = some ⟨b, off, none⟩ ∧ b < w.heap.size ∧ ∀ i, i < xs.length → w.cell? ⟨b, off + i, none⟩ = some (.int .i64 (xs.getD i 0))
theorem Row.keep {w w' : World} {ao : Option Addr} {xs : List Int} (h : Row w ao xs) (hb : Below w.heap.size w w') : Row w' ao xs := by
  rcases h with h | ⟨b, off, rfl, hl, hc⟩
  · exact .inl h
  · exact .inr ⟨b, off, rfl, Nat.lt_of_lt_of_le hl hb.size, fun i hi => (hb.cell (p := ⟨b, off + i, none⟩) hl).trans (hc i hi)⟩
theorem Row.at {w : World} {ao : Option Addr} {xs : List Int} (h : Row w ao xs) {k : Nat} (hk : k < xs.length) : ∃ b off, ao = some ⟨b, off, none⟩ ∧ b < w.heap.size ∧ w.cell? ⟨b, off + k, none⟩ = some (.int .i64 (xs.getD k 0)) := by
  rcases h with rfl | ⟨b, off, rfl, hl, hc⟩
  · simp at hk
  · exact ⟨b, off, rfl, hl, hc k hk⟩

/-- The slice at ao holds these entries, two cells each; each entry's numbers lie where it says. -/
def SelRow (w : World) (ao : Option Addr) (ss : List Sel) : Prop :=
  (∀ s ∈ ss, Row w s.ao s.xs ∧ s.xs.length ≤ 17592186044416) ∧
  (ss = [] ∨ ∃ b off, ao = some ⟨b, off, none⟩ ∧ b < w.heap.size ∧ ∀ i, i < ss.length → w.cell? ⟨b, off + i * 2, none⟩ = some (.int .u16 (ss.getD i noSel).hash) ∧ w.cell? ⟨b, off + i * 2 + 1, none⟩ = some (.slice (ss.getD i noSel).ao (ss.getD i noSel).xs.length (ss.getD i noSel).cap))
theorem SelRow.keep {w w' : World} {ao : Option Addr} {ss : List Sel} (h : SelRow w ao ss) (hb : Below w.heap.size w w') : SelRow w' ao ss := by
  refine ⟨fun s hs => ⟨(h.1 s hs).1.keep hb, (h.1 s hs).2⟩, ?_⟩
  rcases h.2 with h | ⟨b, off, rfl, hl, hc⟩
  · exact .inl h
  · exact .inr ⟨b, off, rfl, Nat.lt_of_lt_of_le hl hb.size, fun i hi => ⟨(hb.cell (p := ⟨b, off + i * 2, none⟩) hl).trans (hc i hi).1, (hb.cell (p := ⟨b, off + i * 2 + 1, none⟩) hl).trans (hc i hi).2⟩⟩
theorem getD_mem {ss : List Sel} {k : Nat} (hk : k < ss.length) : ss.getD k noSel ∈ ss := by simp [List.getD, hk]
theorem SelRow.at {w : World} {ao : Option Addr} {ss : List Sel} (h : SelRow w ao ss) {k : Nat} (hk : k < ss.length) :
    ∃ b off, ao = some ⟨b, off, none⟩ ∧ b < w.heap.size ∧ w.cell? ⟨b, off + k * 2, none⟩ = some (.int .u16 (ss.getD k noSel).hash) ∧ w.cell? ⟨b, off + k * 2 + 1, none⟩ = some (.slice (ss.getD k noSel).ao (ss.getD k noSel).xs.length (ss.getD k noSel).cap) ∧ Row w (ss.getD k noSel).ao (ss.getD k noSel).xs ∧ (ss.getD k noSel).xs.length ≤ 17592186044416 := by
  have hm := h.1 _ (getD_mem hk)
  rcases h.2 with rfl | ⟨b, off, rfl, hl, hc⟩
  · simp at hk
  · exact ⟨b, off, rfl, hl, (hc k hk).1, (hc k hk).2, hm.1, hm.2⟩

/-- Is x among them? -/
def has (xs : List Int) (x : Int) : Bool := xs.any (· == x)
theorem has_take {xs : List Int} {k : Nat} (hk : k < xs.length) (x : Int) : has (xs.take (k + 1)) x = (has (xs.take k) x || (xs.getD k 0 == x)) := by
  unfold has
  rw [List.take_succ_eq_append_getElem hk]
  simp only [List.any_append, List.any_cons, List.any_nil, Bool.or_false, List.getD, List.getElem?_eq_getElem hk, Option.getD_some]
theorem has_drop {xs : List Int} {k : Nat} (hk : k < xs.length) (x : Int) : has (xs.drop k) x = ((xs.getD k 0 == x) || has (xs.drop (k + 1)) x) := by
  unfold has
  rw [List.drop_eq_getElem_cons hk]
  simp only [List.any_cons, List.getD, List.getElem?_eq_getElem hk, Option.getD_some]
theorem has_split (xs : List Int) (k : Nat) (x : Int) : has xs x = (has (xs.take k) x || has (xs.drop k) x) := by
  unfold has; rw [← List.any_append, List.take_append_drop]
/-- Does the entry name the bank and list x? -/
def picks (s : Sel) (alg x : Int) : Bool := (s.hash == alg) && has s.xs x
def sels (ss : List Sel) (alg x : Int) : Bool := ss.any fun s => picks s alg x
theorem sels_take {ss : List Sel} {k : Nat} (hk : k < ss.length) (alg x : Int) : sels (ss.take (k + 1)) alg x = (sels (ss.take k) alg x || picks (ss.getD k noSel) alg x) := by
  unfold sels
  rw [List.take_succ_eq_append_getElem hk]
  simp only [List.any_append, List.any_cons, List.any_nil, Bool.or_false, List.getD, List.getElem?_eq_getElem hk, Option.getD_some]
theorem sels_drop {ss : List Sel} {k : Nat} (hk : k < ss.length) (alg x : Int) : sels (ss.drop k) alg x = (picks (ss.getD k noSel) alg x || sels (ss.drop (k + 1)) alg x) := by
  unfold sels
  rw [List.drop_eq_getElem_cons hk]
  simp only [List.any_cons, List.getD, List.getElem?_eq_getElem hk, Option.getD_some]
theorem sels_split (ss : List Sel) (k : Nat) (alg x : Int) : sels ss alg x = (sels (ss.take k) alg x || sels (ss.drop k) alg x) := by
  unfold sels; rw [← List.any_append, List.take_append_drop]

set_option maxHeartbeats 1000000 in
theorem selects_any (ao : Option Addr) (n c : Nat) (ss : List Sel) (alg x : Int) (w : World) (hr : SelRow w ao ss) (hl : ss.length = n) (hn : n ≤ 4398046511104) :
    Calls Yba.prog 4 #[.slice ao n c, .int .u16 alg, .int .i64 x] w fun e w' => e = .returned (.bool (sels ss alg x)) ∧ Below w.heap.size w w' := by
  have HR := hide hr
  have HL := hide hl
  clear hr hl
  go_enter Yba.func4, Yba.ntmps4
  go_wp2
  go_loopg [13] n (fun g i wr => ∃ k : Nat, k ≤ n ∧ g = n - k ∧ i = .int .i64 k ∧ sels (ss.take k) alg x = false ∧ Below w.heap.size w wr)
  case atStart => exact ⟨0, Nat.zero_le _, by omega, rfl, rfl, Below.refl _ _⟩
  case round =>
    obtain ⟨k, hk, hgk, rfl, hno, hbel⟩ := hrel
    have HNO := hide hno
    have HBEL := hide hbel
    clear hno hbel
    by_cases hkn : k < n
    · obtain ⟨b, off, rfl, hb, hc0, hc1, hrow, hlen⟩ := (HR.out.keep HBEL.out).at (k := k) (by rw [HL.out]; exact hkn)
      have HST := hide (sels_take (ss := ss) (k := k) (by rw [HL.out]; exact hkn) alg x)
      have HDR := hide (sels_drop (ss := ss) (k := k) (by rw [HL.out]; exact hkn) alg x)
      generalize ss.getD k noSel = s at *
      obtain ⟨sh, sa, sc, xs⟩ := s
      simp only at hc0 hc1 hrow hlen
      have HROW := hide hrow
      clear hrow
      by_cases hh : sh = alg
      · subst hh
        have hh2 : (sh != sh) = false := by simp
        go_wp2_with fail
        have HW : Hid (Row (wr.alloc (.cells #[.int .u16 sh, .slice sa xs.length sc] 30)) sa xs ∧ Below w.heap.size w (wr.alloc (.cells #[.int .u16 sh, .slice sa xs.length sc] 30))) :=
          ⟨HROW.out.keep ((Below.refl _ _).alloc (Nat.le_refl _) _), HBEL.out.alloc HBEL.out.size _⟩
        generalize wr.alloc (.cells #[.int .u16 sh, .slice sa xs.length sc] 30) = w1 at *
        clear hc0 hc1 HROW
        go_loopg [24] xs.length (fun g i wx => wx = w1 ∧ ∃ j : Nat, j ≤ xs.length ∧ g = xs.length - j ∧ i = .int .i64 j ∧ has (xs.take j) x = false)
        case atStart => exact ⟨rfl, 0, Nat.zero_le _, by omega, rfl, rfl⟩
        case round =>
          obtain ⟨hwx, j, hj, hgj, rfl, hno⟩ := hrel
          subst hwx
          have HN2 := hide hno
          clear hno
          by_cases hjl : j < xs.length
          · obtain ⟨b', off', rfl, hb', hcj⟩ := HW.out.1.at hjl
            have HT2 := hide (has_take hjl x)
            have HD2 := hide (has_drop hjl x)
            generalize xs.getD j 0 = z at *
            by_cases hz : z = x
            · have hzx : (z == x) = true := by simp [hz]
              go_wp2
              go_ret
              refine ⟨?_, HW.out.2⟩
              have h1 : sels ss sh x = true := by
                rw [sels_split ss k, HNO.out, HDR.out]
                have : has xs x = true := by rw [has_split xs j, HN2.out, HD2.out, hzx]; rfl
                simp [picks, this]
              rw [h1]; rfl
            · have hzx : (z == x) = false := by simp [hz]
              clear hz
              go_wp2
              go_roundg (xs.length - (j + 1))
              case measure => omega
              case rel => exact ⟨rfl, j + 1, by omega, rfl, by go_num, by rw [HT2.out, HN2.out, hzx]; rfl⟩
          · have hjl' : j = xs.length := by omega
            have h1 : has xs x = false := by
              have := HN2.out
              rwa [hjl', List.take_length] at this
            have H1 := hide h1
            clear h1
            go_wp2
            go_roundg (n - (k + 1))
            case measure => omega
            case rel => exact ⟨k + 1, by omega, rfl, by go_num, by rw [HST.out, HNO.out]; simp [picks, H1.out], HW.out.2⟩
      · have hh2 : (sh != alg) = true := by simp [hh]
        go_wp2
        go_roundg (n - (k + 1))
        case measure => omega
        case rel => exact ⟨k + 1, by omega, rfl, by go_num, by rw [HST.out, HNO.out]; simp [picks, hh], HBEL.out.alloc HBEL.out.size _⟩
    · have hkn' : k = n := by omega
      go_wp2
      go_ret
      refine ⟨?_, unhide HBEL⟩
      have : sels ss alg x = false := by
        have := HNO.out
        rwa [hkn', List.take_of_length_le (by rw [HL.out]; exact Nat.le_refl _)] at this
      rw [this]; rfl

set_option maxHeartbeats 1000000 in
theorem model_any (ao : Option Addr) (n c : Nat) (ss : List Sel) (alg x : Int) (w : World) (hr : SelRow w ao ss) (hl : ss.length = n) (hn : n ≤ 4398046511104) :
    Calls Yba.prog 5 #[.slice ao n c, .int .u16 alg, .int .i64 x] w fun e w' => e = .returned (.bool (sels ss alg x)) ∧ w' = w := by
  have HR := hide hr
  have HL := hide hl
  clear hr hl
  go_enter Yba.func5, Yba.ntmps5
  go_wp2
  go_loopg [7, 8] n (fun g f i wr => wr = w ∧ ∃ k : Nat, k ≤ n ∧ g = k ∧ i = .int .i64 ((k : Int) - 1) ∧ f = .bool (sels (ss.drop k) alg x))
  case atStart => exact ⟨rfl, n, Nat.le_refl _, rfl, by go_num, by rw [List.drop_of_length_le (by rw [HL.out]; exact Nat.le_refl _)]; rfl⟩
  case round =>
    obtain ⟨hwr, k, hk, hgk, rfl, rfl⟩ := hrel
    subst hwr
    by_cases hk0 : k = 0
    · subst hk0
      go_wp2
      go_ret
      exact ⟨rfl, rfl⟩
    · obtain ⟨m, rfl⟩ : ∃ m, k = m + 1 := ⟨k - 1, by omega⟩
      have hmn : m < n := by omega
      obtain ⟨b, off, rfl, hb, hc0, hc1, hrow, hlen⟩ := HR.out.at (k := m) (by rw [HL.out]; exact hmn)
      have HDR := hide (sels_drop (ss := ss) (k := m) (by rw [HL.out]; exact hmn) alg x)
      generalize ss.getD m noSel = s at *
      generalize sels (ss.drop (m + 1)) alg x = q at *
      obtain ⟨sh, sa, sc, xs⟩ := s
      simp only at hc0 hc1 hrow hlen
      have HROW := hide hrow
      clear hrow hk0
      by_cases hh : sh = alg
      · subst hh
        have hh2 : (sh == sh) = true := by simp
        go_wp2_with fail
        clear hc0 hc1
        go_loopg [7, 10] xs.length (fun g f i wx => wx = wr ∧ ∃ j : Nat, j ≤ xs.length ∧ g = j ∧ i = .int .i64 ((j : Int) - 1) ∧ f = .bool (q || has (xs.drop j) x))
        case atStart => exact ⟨rfl, xs.length, Nat.le_refl _, rfl, by go_num, by rw [List.drop_length]; simp [has]⟩
        case round =>
          obtain ⟨hwx, j, hj, hgj, rfl, rfl⟩ := hrel
          subst hwx
          by_cases hj0 : j = 0
          · subst hj0
            go_wp2
            go_roundg m
            case measure => omega
            case rel => exact ⟨rfl, m, by omega, rfl, by go_num, by rw [HDR.out]; simp [picks, Bool.or_comm]⟩
          · obtain ⟨i, rfl⟩ : ∃ i, j = i + 1 := ⟨j - 1, by omega⟩
            obtain ⟨b', off', rfl, hb', hcj⟩ := HROW.out.at (k := i) (by omega)
            have HD2 := hide (has_drop (xs := xs) (k := i) (by omega) x)
            generalize xs.getD i 0 = z at *
            generalize has (xs.drop (i + 1)) x = q2 at *
            clear hj0
            by_cases hz : z = x
            · have hzx : (z == x) = true := by simp [hz]
              go_wp2
              go_roundg i
              case measure => omega
              case rel => exact ⟨rfl, i, by omega, rfl, by go_num, by rw [HD2.out, hzx]; simp⟩
            · have hzx : (z == x) = false := by simp [hz]
              clear hz
              go_wp2
              go_roundg i
              case measure => omega
              case rel => exact ⟨rfl, i, by omega, rfl, by go_num, by rw [HD2.out, hzx]; simp⟩
      · have hh2 : (sh == alg) = false := by simp [hh]
        go_wp2
        go_roundg m
        case measure => omega
        case rel => exact ⟨rfl, m, by omega, rfl, by go_num, by rw [HDR.out]; simp [picks, hh]⟩
end Go.Proofs.Ybulkejfm
