import Derived.Test.YbulkrwcHex
import Derived.Below
namespace Go.Proofs.Ybulkrwc
open Go.RowKit

theorem hexV_bd (c : Int) : -1 ≤ hexV c ∧ hexV c ≤ 15 := by unfold hexV; split <;> (try split) <;> (try split) <;> omega

/-- The two tables of digits, as plain functions. -/
def lowD (k : Nat) : Int := if k < 10 then 48 + k else 87 + k
def uppD (k : Nat) : Int := if k < 10 then 48 + k else 55 + k
theorem lowD_hex (k : Nat) (h : k < 16) : hexV (lowD k) = k := by
  unfold lowD hexV; split <;> split <;> (try split) <;> (try split) <;> omega
theorem uppD_hex (k : Nat) (h : k < 16) : hexV (uppD k) = k := by
  unfold uppD hexV; split <;> split <;> (try split) <;> (try split) <;> omega
theorem hex_digit (c : Int) (k : Nat) (h : hexV c = k) : lowD k = c ∨ uppD k = c := by
  unfold hexV at h; unfold lowD uppD
  split at h
  · left; split <;> omega
  · split at h
    · left; split <;> omega
    · split at h
      · right; split <;> omega
      · omega

theorem low_at (k : Nat) (h : k < 16) :
    (((⟨#[48, 49, 50, 51, 52, 53, 54, 55, 56, 57, 97, 98, 99, 100, 101, 102]⟩ : ByteArray)[k]'h).toNat : Int) = lowD k := by
  have hks : k = 0 ∨ k = 1 ∨ k = 2 ∨ k = 3 ∨ k = 4 ∨ k = 5 ∨ k = 6 ∨ k = 7 ∨ k = 8 ∨ k = 9 ∨ k = 10 ∨ k = 11 ∨ k = 12 ∨ k = 13 ∨ k = 14 ∨ k = 15 := by omega
  rcases hks with rfl | rfl | rfl | rfl | rfl | rfl | rfl | rfl | rfl | rfl | rfl | rfl | rfl | rfl | rfl | rfl <;> rfl
theorem upp_at (k : Nat) (h : k < 16) :
    (((⟨#[48, 49, 50, 51, 52, 53, 54, 55, 56, 57, 65, 66, 67, 68, 69, 70]⟩ : ByteArray)[k]'h).toNat : Int) = uppD k := by
  have hks : k = 0 ∨ k = 1 ∨ k = 2 ∨ k = 3 ∨ k = 4 ∨ k = 5 ∨ k = 6 ∨ k = 7 ∨ k = 8 ∨ k = 9 ∨ k = 10 ∨ k = 11 ∨ k = 12 ∨ k = 13 ∨ k = 14 ∨ k = 15 := by omega
  rcases hks with rfl | rfl | rfl | rfl | rfl | rfl | rfl | rfl | rfl | rfl | rfl | rfl | rfl | rfl | rfl | rfl <;> rfl

set_option maxHeartbeats 1000000 in
theorem value_any (c : Int) (w : World) :
    Calls Yba.prog 6 #[.int .u8 c] w fun e w' => e = .returned (.int .i32 (hexV c)) ∧ w' = w := by
  have hv := hexV_bd c
  go_enter Yba.func6, Yba.ntmps6
  go_wp2
  go_loop [3] (fun i => ∃ k : Nat, k ≤ 16 ∧ i = .int .i64 k ∧ (hexV c = -1 ∨ (k : Int) ≤ hexV c)) (fun i => 16 - (intOf i).toNat)
  case atStart => exact ⟨0, by omega, rfl, by omega⟩
  case round =>
    obtain ⟨k, hk, rfl, hc⟩ := hrel
    by_cases hlt : k < 16
    · have el := low_at k hlt
      have eu := upp_at k hlt
      go_wp2
      · rename_i hw1 hw2
        go_ret
        exact ⟨ret_int (by rw [← hw1]; exact (lowD_hex k hlt).symm), rfl⟩
      · rename_i hw1 hw2 hw3
        go_ret
        exact ⟨ret_int (by
          rcases hw2 with h | h
          · rw [← eq_of_beq h]; exact (lowD_hex k hlt).symm
          · rw [← eq_of_beq h]; exact (uppD_hex k hlt).symm), rfl⟩
      · rename_i hw0 hw1 hw2 hw3
        refine ⟨⟨k + 1, by omega, by go_num, ?_⟩, by simp [intOf]; omega⟩
        have hd := hex_digit c k
        have e1 := ne_of_beq_false hw3.1
        have e2 := ne_of_beq_false hw3.2
        by_cases hx : hexV c = k
        · exact absurd (hd hx) (by rintro (h | h); exact e1 h; exact e2 h)
        · omega
    · go_wp2
      go_ret
      exact ⟨ret_int (by omega), rfl⟩
end Go.Proofs.Ybulkrwc
