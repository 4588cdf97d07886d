import Derived.Test.YbulkrziDoorOne
namespace Go.Proofs.YbulkrziDoor
open Go.Proofs Go.RowKit
set_option maxRecDepth 100000

theorem cmpNaN (w : World) (x : Int) : Calls Ybad.prog 36 #[.int .i64 x] w fun e w' => e = .returned (.bool false) ∧ w' = w := by
  go_enter Ybad.func36, Ybad.ntmps36
  go_wp2
  go_ret
  exact ⟨by simp, rfl⟩

set_option maxHeartbeats 1000000 in
/-- cmp.Less at two int64s. -/
theorem less_any (w : World) (x y : Int) : Calls Ybad.prog 31 #[.int .i64 x, .int .i64 y] w fun e w' => e = .returned (.bool (decide (x < y))) ∧ w' = w := by
  go_enter Ybad.func31, Ybad.ntmps31
  go_wp2_with (go_at_call 36; refine (cmpNaN _ x).mono ?_; rintro e w1 ⟨rfl, rfl⟩)
  go_ret
  exact ⟨rfl, rfl⟩

set_option maxHeartbeats 1000000 in
/-- slices.BinarySearch over one number, 0, for 0. -/
theorem search_zero (w : World) (h hc : Nat) (ch : w.cell? ⟨h, 0, none⟩ = some (.int .i64 0)) :
    Calls Ybad.prog 15 #[.slice (some ⟨h, 0, none⟩) 1 hc, .int .i64 0] w fun e w' => e = .returned (.tuple #[.int .i64 0, .bool true]) ∧ w' = w := by
  go_enter Ybad.func15, Ybad.ntmps15
  go_wp2
  go_loop [7, 8] (fun i j => i = .int .i64 0 ∧ ∃ k : Nat, k ≤ 1 ∧ j = .int .i64 k) (fun _ j => (intOf j).toNat)
  case atStart => exact ⟨rfl, 1, Nat.le_refl _, rfl⟩
  case round =>
    obtain ⟨rfl, k, hk, rfl⟩ := hrel
    by_cases h1 : k = 1
    · subst h1
      go_wp2_with (go_at_call 31; refine (less_any _ 0 0).mono ?_; rintro e w1 ⟨rfl, rfl⟩)
      go_round
      case rel => exact ⟨rfl, 0, Nat.zero_le _, by go_num⟩
      case measure => simp [intOf]
    · obtain rfl : k = 0 := by omega
      go_wp2
      go_ret2
      exact ⟨rfl, rfl⟩

set_option maxHeartbeats 1000000 in
/-- .. and for a number above. -/
theorem search_pos (w : World) (h hc : Nat) (o : Nat) (ho : 0 < o) (ch : w.cell? ⟨h, 0, none⟩ = some (.int .i64 0)) :
    Calls Ybad.prog 15 #[.slice (some ⟨h, 0, none⟩) 1 hc, .int .i64 o] w fun e w' => e = .returned (.tuple #[.int .i64 1, .bool false]) ∧ w' = w := by
  go_enter Ybad.func15, Ybad.ntmps15
  go_wp2
  go_loop [7, 8] (fun i j => j = .int .i64 1 ∧ ∃ k : Nat, k ≤ 1 ∧ i = .int .i64 k) (fun i _ => 1 - (intOf i).toNat)
  case atStart => exact ⟨rfl, 0, Nat.zero_le _, rfl⟩
  case round =>
    obtain ⟨rfl, k, hk, rfl⟩ := hrel
    by_cases h1 : k = 0
    · subst h1
      have hd : decide ((0 : Int) < (o : Int)) = true := by simp; omega
      go_wp2_with (go_at_call 31; refine (less_any _ 0 o).mono ?_; rintro e w1 ⟨rfl, rfl⟩)
      go_round
      case rel => exact ⟨rfl, 1, Nat.le_refl _, by go_num⟩
      case measure => simp [intOf]
    · obtain rfl : k = 1 := by omega
      go_wp2
      go_ret2
      exact ⟨rfl, rfl⟩

theorem search_any (w : World) (h hc : Nat) (o : Nat) (ch : w.cell? ⟨h, 0, none⟩ = some (.int .i64 0)) :
    Calls Ybad.prog 15 #[.slice (some ⟨h, 0, none⟩) 1 hc, .int .i64 o] w fun e w' => w' = w ∧ (e = .returned (.tuple #[.int .i64 0, .bool true]) ∨ e = .returned (.tuple #[.int .i64 1, .bool false])) := by
  by_cases h0 : o = 0
  · subst h0
    exact (search_zero w h hc ch).mono fun e w' ⟨he, hw⟩ => ⟨hw, .inl he⟩
  · exact (search_pos w h hc o (by omega) ch).mono fun e w' ⟨he, hw⟩ => ⟨hw, .inr he⟩
end Go.Proofs.YbulkrziDoor
