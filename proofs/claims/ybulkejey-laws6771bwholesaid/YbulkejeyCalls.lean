/- supports and its model, by contract. -/
import Derived.Test.YbulkejeyBase
namespace Go.Proofs.Ybulkejey
open Go.RowKit

/-- The slice at ao holds these numbers, one a cell. -/
def Row (w : World) (ao : Option Addr) (xs : List Int) : Prop := xs = [] ∨ ∃ b off, ao = some ⟨b, off, none⟩ ∧ ∀ i, i < xs.length → w.cell? ⟨b, off + i, none⟩ = some (.int .i64 (xs.getD i 0))

/-- Is x among them? -/
def has (xs : List Int) (x : Int) : Bool := xs.any (· == x)
theorem has_take {xs : List Int} {k : Nat} (hk : k < xs.length) (x : Int) : has (xs.take (k + 1)) x = (has (xs.take k) x || (xs.getD k 0 == x)) := by
  unfold has
  rw [List.take_succ_eq_append_getElem hk]
  simp only [List.any_append, List.any_cons, List.any_nil, Bool.or_false, List.getD, List.getElem?_eq_getElem hk, Option.getD_some]
theorem has_drop {xs : List Int} {k : Nat} (hk : k < xs.length) (x : Int) : has (xs.drop k) x = ((xs.getD k 0 == x) || has (xs.drop (k + 1)) x) := by
  unfold has
  rw [List.drop_eq_getElem_cons hk]
  simp only [List.any_cons, List.getD, List.getElem?_eq_getElem hk, Option.getD_some]

set_option maxHeartbeats 400000 in
theorem supports_any (ao : Option Addr) (c : Nat) (xs : List Int) (x : Int) (w : World) (hr : Row w ao xs) (hx0 : 0 ≤ x) (hx1 : x ≤ 255) (hn : xs.length ≤ 1048576) :
    Calls Yba.prog 4 #[.slice ao xs.length c, .int .u8 x] w fun e w' => e = .returned (.bool (has xs x)) ∧ w' = w := by
  rcases hr with rfl | ⟨b, off, rfl, hc⟩
  · go_enter Yba.func4, Yba.ntmps4
    go_wp2
    go_loop [9] (fun i => i = .int .i64 0) (fun _ => 0)
    case atStart => rfl
    case round =>
      subst hrel
      go_wp2
      go_ret
      exact ⟨rfl, rfl⟩
  · obtain ⟨n, hl⟩ : ∃ n, xs.length = n := ⟨_, rfl⟩
    have HL : Hid (xs.length = n) := hl
    have HC : Hid (∀ i, i < xs.length → w.cell? ⟨b, off + i, none⟩ = some (.int .i64 (xs.getD i 0))) := hc
    rw [hl] at hn ⊢
    clear hc hl
    go_enter Yba.func4, Yba.ntmps4
    go_wp2
    go_loop [9] (fun i => ∃ k : Nat, k ≤ n ∧ i = .int .i64 k ∧ has (xs.take k) x = false) (fun i => n - (intOf i).toNat)
    case atStart => exact ⟨0, Nat.zero_le _, rfl, rfl⟩
    case round =>
      obtain ⟨k, hk, rfl, hno⟩ := hrel
      have HNO := hide hno
      clear hno
      by_cases hkn : k < n
      · have hck := HC.out k (by rw [HL.out]; exact hkn)
        have hst := has_take (xs := xs) (k := k) (by rw [HL.out]; exact hkn) x
        have hdr := has_drop (xs := xs) (k := k) (by rw [HL.out]; exact hkn) x
        generalize xs.getD k 0 = z at *
        rw [HNO.out, Bool.false_or] at hst
        have HST := hide hst
        have HDR := hide hdr
        clear hst hdr
        by_cases hz : z = x
        · have hzx : (z == x) = true := by simp [hz]
          go_wp2
          go_ret
          refine ⟨?_, rfl⟩
          have : has xs x = true := by
            have h1 : has xs x = (has (xs.take (k + 1)) x || has (xs.drop (k + 1)) x) := by
              unfold has; rw [← List.any_append, List.take_append_drop]
            rw [h1, HST.out, hzx]; rfl
          rw [this]; rfl
        · have hzx : (z == x) = false := by simp [hz]
          clear hz
          go_wp2
          go_round
          case rel => exact ⟨k + 1, by omega, by go_num, by rw [HST.out, hzx]⟩
          case measure => simp [intOf]; omega
      · have hkn' : k = n := by omega
        go_wp2
        go_ret
        refine ⟨?_, rfl⟩
        have : has xs x = false := by
          have := HNO.out
          rwa [hkn', List.take_of_length_le (by rw [HL.out]; exact Nat.le_refl _)] at this
        rw [this]; rfl

set_option maxHeartbeats 400000 in
theorem model_any (ao : Option Addr) (c : Nat) (xs : List Int) (x : Int) (w : World) (hr : Row w ao xs) (hx0 : 0 ≤ x) (hx1 : x ≤ 255) (hn : xs.length ≤ 1048576) :
    Calls Yba.prog 5 #[.slice ao xs.length c, .int .u8 x] w fun e w' => e = .returned (.bool (has xs x)) ∧ w' = w := by
  rcases hr with rfl | ⟨b, off, rfl, hc⟩
  · go_enter Yba.func5, Yba.ntmps5
    go_wp2
    go_loop [5, 6] (fun f i => f = .bool false ∧ i = .int .i64 (-1)) (fun _ _ => 0)
    case atStart => exact ⟨rfl, rfl⟩
    case round =>
      obtain ⟨rfl, rfl⟩ := hrel
      go_wp2
      go_ret
      exact ⟨rfl, rfl⟩
  · obtain ⟨n, hl⟩ : ∃ n, xs.length = n := ⟨_, rfl⟩
    have HL : Hid (xs.length = n) := hl
    have HC : Hid (∀ i, i < xs.length → w.cell? ⟨b, off + i, none⟩ = some (.int .i64 (xs.getD i 0))) := hc
    rw [hl] at hn ⊢
    clear hc hl
    go_enter Yba.func5, Yba.ntmps5
    go_wp2
    go_loop [5, 6, 7] (fun f i _ => ∃ k : Nat, k ≤ n ∧ i = .int .i64 ((k : Int) - 1) ∧ f = .bool (has (xs.drop k) x)) (fun _ i _ => (intOf i + 1).toNat)
    case atStart => exact ⟨n, Nat.le_refl _, by go_num, by rw [List.drop_of_length_le (by rw [HL.out]; exact Nat.le_refl _)]; rfl⟩
    case round =>
      obtain ⟨k, hk, rfl, rfl⟩ := hrel
      by_cases hk0 : k = 0
      · subst hk0
        go_wp2
        go_ret
        exact ⟨rfl, rfl⟩
      · obtain ⟨m, rfl⟩ : ∃ m, k = m + 1 := ⟨k - 1, by omega⟩
        have hck := HC.out m (by rw [HL.out]; omega)
        have hdr := has_drop (xs := xs) (k := m) (by rw [HL.out]; omega) x
        generalize xs.getD m 0 = z at *
        generalize has (xs.drop (m + 1)) x = q at *
        have HDR := hide hdr
        clear hdr hk0
        by_cases h0 : 0 ≤ z
        · by_cases h1 : z ≤ 255
          · by_cases hz : z = x
            · have hzx : (z == x) = true := by simp [hz]
              go_wp2
              all_goals
                go_round
                case rel => exact ⟨m, by omega, by go_num, by rw [HDR.out, hzx]; rfl⟩
                case measure => simp [intOf]
            · have hzx : (z == x) = false := by simp [hz]
              clear hz
              go_wp2
              all_goals
                go_round
                case rel => exact ⟨m, by omega, by go_num, by rw [HDR.out, hzx]; rfl⟩
                case measure => simp [intOf]
          · have hzx : (z == x) = false := by simp; omega
            have hd : decide (z ≤ 255) = false := by simp; omega
            go_wp2
            all_goals
              go_round
              case rel => exact ⟨m, by omega, by go_num, by rw [HDR.out, hzx]; rfl⟩
              case measure => simp [intOf]
        · have hzx : (z == x) = false := by simp; omega
          have hd : decide (0 ≤ z) = false := by simp; omega
          go_wp2
          all_goals
            go_round
            case rel => exact ⟨m, by omega, by go_num, by rw [HDR.out, hzx]; rfl⟩
            case measure => simp [intOf]
end Go.Proofs.Ybulkejey
