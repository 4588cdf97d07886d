import Derived.Test.YbulkrwcRows
import Derived.WalkKit
namespace Go.Proofs.Ybulkrwc

/-- What 'hexValue' computes. -/
def hexV (c : Int) : Int :=
  if 48 ≤ c ∧ c ≤ 57 then c - 48 else if 97 ≤ c ∧ c ≤ 102 then c - 87 else if 65 ≤ c ∧ c ≤ 70 then c - 55 else -1

theorem ret_int {k : IntKind} {a b : Int} (h : a = b) : Ending.returned (.int k a) = .returned (.int k b) := by rw [h]

set_option maxHeartbeats 400000 in
theorem hex_any (c : Int) (w : World) (h0 : 0 ≤ c) (h1 : c ≤ 255) :
    Calls Yba.prog 5 #[.int .u8 c] w fun e w' => e = .returned (.int .i32 (hexV c)) ∧ w' = w := by
  by_cases a1 : 48 ≤ c
  · by_cases a2 : c ≤ 57
    · go_enter Yba.func5, Yba.ntmps5
      go_wp2
      go_ret
      exact ⟨ret_int (by unfold hexV; rw [if_pos ⟨a1, a2⟩]), rfl⟩
    · by_cases b1 : 97 ≤ c
      · by_cases b2 : c ≤ 102
        · go_enter Yba.func5, Yba.ntmps5
          go_wp2
          go_ret
          exact ⟨ret_int (by unfold hexV; rw [if_neg (by omega), if_pos ⟨b1, b2⟩]; omega), rfl⟩
        · go_enter Yba.func5, Yba.ntmps5
          go_wp2
          go_ret
          exact ⟨ret_int (by unfold hexV; rw [if_neg (by omega), if_neg (by omega), if_neg (by omega)]), rfl⟩
      · by_cases c1 : 65 ≤ c
        · by_cases c2 : c ≤ 70
          · go_enter Yba.func5, Yba.ntmps5
            go_wp2
            go_ret
            exact ⟨ret_int (by unfold hexV; rw [if_neg (by omega), if_neg (by omega), if_pos ⟨c1, c2⟩]; omega), rfl⟩
          · go_enter Yba.func5, Yba.ntmps5
            go_wp2
            go_ret
            exact ⟨ret_int (by unfold hexV; rw [if_neg (by omega), if_neg (by omega), if_neg (by omega)]), rfl⟩
        · go_enter Yba.func5, Yba.ntmps5
          go_wp2
          go_ret
          exact ⟨ret_int (by unfold hexV; rw [if_neg (by omega), if_neg (by omega), if_neg (by omega)]), rfl⟩
  · go_enter Yba.func5, Yba.ntmps5
    go_wp2
    go_ret
    exact ⟨ret_int (by unfold hexV; rw [if_neg (by omega), if_neg (by omega), if_neg (by omega)]), rfl⟩
end Go.Proofs.Ybulkrwc
