import Derived.Test.YbulkrxeRows
import Derived.Test.YbulkrxeComm
import Derived.Below
namespace Go.Proofs.Ybulkrxe
open Go.Proofs Go.RowKit Go.Conc
set_option maxRecDepth 100000

set_option maxHeartbeats 1000000 in
theorem wake_room (w : World) (ob cb s r : Nat) (tm : Bool) (hq : w.cell? ⟨ob, 5, none⟩ = some (.chan (some cb))) (hc : w.heap[cb]? = some (.chan 1 #[] false s r tm)) :
    Calls Yba.prog 16 #[.pointer (some ⟨ob, 0, none⟩)] w fun e w' => e = .returned (.tuple #[]) ∧ w' = w.setChan cb 1 #[.agg #[]] false (s + 1) r tm := by
  refine calls_of_wpn Yba.func16 rfl ?_
  simp only [Yba.ntmps16, List.size_toArray, List.length_cons, List.length_nil, Nat.reduceAdd, Nat.reduceSub, Array.replicate_succ, Array.replicate_zero, List.push_toArray, List.append_toArray, List.nil_append, List.cons_append]
  refine wpn_seq (wpn_of_wp ?_)
  go_wp2
  refine wpn_seq (wpn_region ?_)
  simp only [List.size_toArray, List.length_cons, List.length_nil, Nat.reduceAdd, List.range, List.range.loop]
  refine opn_select_room rfl rfl (.tmp 5) (.tmp 6) 26 rfl (c := cb) rfl rfl (Yba.zeroValue26 _) hc (by simp) ?_
  refine opn_value rfl rfl (v := .int .i64 (0)) (w' := w.setChan cb 1 #[.agg #[]] false (s + 1) r tm) (by simp [go_sem, goInt]) ?_
  refine opn_value rfl rfl (v := .bool true) (w' := w.setChan cb 1 #[.agg #[]] false (s + 1) r tm) (by simp [go_sem]) ?_
  refine opn_end ?_
  refine wpn_of_wp ?_
  walk_nrm
  go_wp2
  go_end0
  exact ⟨rfl, rfl⟩

set_option maxHeartbeats 1000000 in
theorem wake_full (w : World) (ob cb s r : Nat) (tm : Bool) (v : Value) (hq : w.cell? ⟨ob, 5, none⟩ = some (.chan (some cb))) (hc : w.heap[cb]? = some (.chan 1 #[v] false s r tm)) :
    Calls Yba.prog 16 #[.pointer (some ⟨ob, 0, none⟩)] w fun e w' => e = .returned (.tuple #[]) ∧ w' = w := by
  refine calls_of_wpn Yba.func16 rfl ?_
  simp only [Yba.ntmps16, List.size_toArray, List.length_cons, List.length_nil, Nat.reduceAdd, Nat.reduceSub, Array.replicate_succ, Array.replicate_zero, List.push_toArray, List.append_toArray, List.nil_append, List.cons_append]
  refine wpn_seq (wpn_of_wp ?_)
  go_wp2
  refine wpn_seq (wpn_region ?_)
  simp only [List.size_toArray, List.length_cons, List.length_nil, Nat.reduceAdd, List.range, List.range.loop]
  refine opn_select_full rfl rfl (.tmp 5) (.tmp 6) 26 rfl (c := cb) rfl rfl (Yba.zeroValue26 _) hc (by simp) ?_
  refine opn_value rfl rfl (v := .int .i64 (-1)) (w' := w) (by simp [go_sem, goInt]) ?_
  refine opn_value rfl rfl (v := .bool false) (w' := w) (by simp [go_sem]) ?_
  refine opn_end ?_
  refine wpn_of_wp ?_
  walk_nrm
  go_wp2
  go_end0
  exact ⟨rfl, rfl⟩

end Go.Proofs.Ybulkrxe
