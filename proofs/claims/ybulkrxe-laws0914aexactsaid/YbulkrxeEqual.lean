import Derived.Test.YbulkrxeExpect
import Derived.Laws.BytesArg
namespace Go.Proofs.Ybulkrxe
open Go.Proofs Go.RowKit
set_option maxRecDepth 100000

/-- What 'string(v)' gives. -/
theorem conv_own {w : World} {v : Value} {zs : List Int} (h : Own w 5 v (U zs)) : (convert 22 9 v).run Yba.prog w = .ok (.string (strOfNums zs)) w := by
  rcases h.2 with ⟨rfl, hn⟩ | ⟨g, cap, cur, rfl, _⟩
  · have hx : zs = [] := List.eq_nil_of_length_eq_zero (by simpa [U] using hn)
    subst hx
    exact run_convert_bytes_nil w 22 5 Yba.underlying22 Yba.underlying5 0 0 9 Yba.underlying9
  · rw [len_U]
    refine run_convert_bytes_arg w 22 5 Yba.underlying22 Yba.underlying5 g 0 zs.length cap zs rfl ?_ 9 Yba.underlying9
    intro i hi
    have := World.ownsRow.cells (g := g) h rfl i (.int .u8 (zs.getD i 0)) (by simp [U, hi])
    rwa [Addr.add_lit] at this

set_option maxHeartbeats 400000 in
/-- bytes.Equal at two slices of the same bytes. -/
theorem equal_same (w : World) (v1 v2 : Value) (zs : List Int) (h1 : Own w 5 v1 (U zs)) (h2 : Own w 5 v2 (U zs)) :
    Calls Yba.prog 7 #[v1, v2] w fun e w' => e = .returned (.bool true) ∧ w' = w := by
  have c1 := conv_own h1
  have c2 := conv_own h2
  clear h1 h2
  go_enter Yba.func7, Yba.ntmps7
  go_wp2
  go_ret
  exact ⟨by simp, rfl⟩
end Go.Proofs.Ybulkrxe
