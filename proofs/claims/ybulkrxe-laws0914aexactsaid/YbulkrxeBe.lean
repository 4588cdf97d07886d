import Derived.Test.YbulkrxeRows
import Derived.Test.YbulkrxeOwn
namespace Go.Proofs.Ybulkrxe
open Go.Proofs Go.RowKit
set_option maxRecDepth 100000

theorem info5 : (Yba.prog.info? 5).map (fun i => (i.zero, i.size, i.bytes)) = some (some (.int .u8 0), 1, 1) := by kernel_rfl

/-- Bytes, as cells. -/
def U (zs : List Int) : List Value := zs.map (Value.int .u8)
theorem len_U (zs : List Int) : (U zs).length = zs.length := by simp [U]
theorem one_U (zs : List Int) : ∀ u ∈ U zs, u.oneCell' = true := ints_oneCell .u8 zs
theorem U_append (xs ys : List Int) : U xs ++ U ys = U (xs ++ ys) := by simp [U]

/-- A number's four bytes, the greatest first. -/
def be (v : Int) : List Int := [v / 16777216, v / 65536 % 256, v / 256 % 256, v % 256]

/-- The four bytes lie in the block that was made last. -/
theorem src_be (w : World) (v : Int) : Src Yba.prog 1 22 (.slice (some ⟨w.heap.size, 0, none⟩) 4 4) 4 (U (be v))
    (w.alloc (.cells #[.int .u8 (v / 16777216), .int .u8 (v / 65536 % 256), .int .u8 (v / 256 % 256), .int .u8 (v % 256)] 5 (0, 0))) := by
  refine Src.ofSlice _ Yba.underlying22 ⟨w.heap.size, 0, none⟩ 4 4 _ rfl ?_ (one_U _)
  intro j u hu
  rw [Addr.add_lit]
  have hj : j < 4 := by have := (List.getElem?_eq_some_iff.1 hu).1; simpa [U, be] using this
  simp only [World.cell?, World.alloc, Array.getElem?_push_size]
  match j, hj with
  | 0, _ => simpa [U, be] using hu
  | 1, _ => simpa [U, be] using hu
  | 2, _ => simpa [U, be] using hu
  | 3, _ => simpa [U, be] using hu

/-- One byte lies in the block that was made last. -/
theorem src_one (w : World) (v : Int) : Src Yba.prog 1 22 (.slice (some ⟨w.heap.size, 0, none⟩) 1 1) 1 (U [v]) (w.alloc (.cells #[.int .u8 v] 5 (0, 0))) := by
  refine Src.ofSlice _ Yba.underlying22 ⟨w.heap.size, 0, none⟩ 1 1 _ rfl ?_ (one_U _)
  intro j u hu
  rw [Addr.add_lit]
  have hj : j < 1 := by have := (List.getElem?_eq_some_iff.1 hu).1; simpa [U] using this
  simp only [World.cell?, World.alloc, Array.getElem?_push_size]
  match j, hj with
  | 0, _ => simpa [U] using hu

theorem bound_append {xs : List Int} {m : Nat} (hn : xs.length ≤ 1000000) (hm : m ≤ 1000000) : (U xs).length + m ≤ maxLen ∧ ((U xs).length + m) * 1 ≤ 140737488355328 := by
  rw [len_U]; simp only [maxLen]; omega

set_option maxHeartbeats 1000000 in
/-- binary.BigEndian.AppendUint32. -/
theorem au32_any (w : World) (sv : Value) (xs : List Int) (v : Int) (hown : Own w 5 sv (U xs)) (hv0 : 0 ≤ v) (hv1 : v ≤ 4294967295) (hn : xs.length ≤ 1000000) :
    Calls Yba.prog 21 #[.agg #[], sv, .int .u32 v] w fun e w' => ∃ sv', e = .returned sv' ∧ Own w' 5 sv' (U (xs ++ be v)) ∧ Step w sv w' sv' := by
  have HO : Hid (Own w 5 sv (U xs)) := hown
  clear hown
  go_enter Yba.func21, Yba.ntmps21
  go_wp2_with (at_builtin; refine step_append rfl (.tmp 7) (.tmp 19) 22 22 rfl 5 (.int .u8 0) 1 Yba.underlying22 info5 rfl sv (U xs) ?e1 ?e2 (.slice (some ⟨w.heap.size + 1, 0, none⟩) 4 4) ?e3 4 (U (be v)) ?e4 ?e5 ?e6 ?_
               case e1 => rfl
               case e2 => exact (HO.out.alloc _).alloc _
               case e3 => rfl
               case e4 => exact (show (w.alloc (.cells #[] 82)).heap.size = w.heap.size + 1 from by simp) ▸ src_be (w.alloc (.cells #[] 82)) v
               case e5 => exact (bound_append hn (by decide)).1
               case e6 => exact (bound_append hn (by decide)).2
               intro sv' w' h1 h2)
  go_ret
  exact ⟨sv', rfl, by rw [← U_append]; exact h1, ((Step.ofAlloc w sv _).alloc _).trans h2⟩

set_option maxHeartbeats 1000000 in
/-- The law's own: zzs0914abe. -/
theorem zbe_any (w : World) (sv : Value) (xs : List Int) (v : Int) (hown : Own w 5 sv (U xs)) (hv0 : 0 ≤ v) (hv1 : v ≤ 4294967295) (hn : xs.length ≤ 1000000) :
    Calls Yba.prog 17 #[sv, .int .u32 v] w fun e w' => ∃ sv', e = .returned sv' ∧ Own w' 5 sv' (U (xs ++ be v)) ∧ Step w sv w' sv' := by
  have HO : Hid (Own w 5 sv (U xs)) := hown
  clear hown
  go_enter Yba.func17, Yba.ntmps17
  go_wp2_with (at_builtin; refine step_append rfl (.tmp 5) (.tmp 17) 22 22 rfl 5 (.int .u8 0) 1 Yba.underlying22 info5 rfl sv (U xs) ?e1 ?e2 (.slice (some ⟨w.heap.size, 0, none⟩) 4 4) ?e3 4 (U (be v)) ?e4 ?e5 ?e6 ?_
               case e1 => rfl
               case e2 => exact HO.out.alloc _
               case e3 => rfl
               case e4 => exact src_be w v
               case e5 => exact (bound_append hn (by decide)).1
               case e6 => exact (bound_append hn (by decide)).2
               intro sv' w' h1 h2)
  go_ret
  exact ⟨sv', rfl, by rw [← U_append]; exact h1, (Step.ofAlloc w sv _).trans h2⟩
end Go.Proofs.Ybulkrxe
