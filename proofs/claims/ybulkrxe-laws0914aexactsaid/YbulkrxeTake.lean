import Derived.Test.YbulkrxeQueue
import Derived.Defers
import Derived.Deep.QuietTactic
import Derived.BigQuiet
import Derived.Laws.CopyRow
namespace Go.Proofs.Ybulkrxe
open Go.Proofs Go.RowKit Go.Conc Go.MuLone
set_option maxRecDepth 100000

/-- A store of what is there already turns nothing: it may be taken in whatever order. -/
theorem quiet_store_same {P : Program} {ops : Array Oper} {C : World → Prop} {Q : Act → Prop} {a : Act} {o : Oper} {rest : List Oper} (hw : Region.wanted o (yielded ops a.tmps) = true) (ty : TypeId) (x y : Operand) (ho : o.op = .store ty x y)
    (b : Nat) (hx : a.eval x = .pointer (some ⟨b, 0, none⟩)) (cs : Array Value) (hy : a.eval y = .agg cs) (t : TypeId) (hC : ∀ W, C W → W.heap[b]? = some (.cells cs t (0, 0))) (hs : (P.info? ty).map (·.size) = some cs.size) (h1 : cs.all (·.oneCell') = true)
    (hk : wpQuiet P ops C Q rest (a.put o.dst undef)) : wpQuiet P ops C Q (o :: rest) a :=
  wpQuiet_step fun K hK => by
    rw [if_pos hw]
    refine ⟨undef, fun W hW => ?_, hK _ hk⟩
    have hr : (execOp a.eval o).run P W = .ok .skip W := by
      unfold execOp
      simp only [ho, hx, hy, Instr.storeAt, Instr.sureAddr, Sem.run_bind, Sem.run_pure, Result.andThen_ok, run_storeVar_row W b t ty cs cs (hC W hW) hs rfl h1, setRow_self W b cs t (0, 0) (hC W hW)]
    unfold Oper.quietAt
    rw [hr]
    exact ⟨rfl, rfl⟩

theorem one3 : (#[Value.int .u32 0, .int .u32 0, .int .u32 0].all (·.oneCell')) = true := by simp [Value.oneCell']
theorem size41 : (Yba.prog.info? 41).map (·.size) = some 3 := by kernel_rfl

set_option maxHeartbeats 2000000 in
theorem take_any (w : World) (B ob cb : Nat) (sv : Value) (asked : Int) (buf : Array Value)
    (hO : Outbox w B ob cb 0 sv asked buf)  :
    Calls Yba.prog 9 #[.pointer (some ⟨ob, 0, none⟩), .slice none 0 0] w fun e w' => e = .returned (.tuple #[sv, .int .i64 asked, .agg #[.int .u32 0, .int .u32 0, .int .u32 0], .bool false]) ∧
      w'.heap[ob]? = some (.cells (boxCells 0 (.slice none 0 0) asked cb) 35 (0, 0)) ∧ w.grownBy w' (some ob) := by
  have HO : Hid (Outbox w B ob cb 0 sv asked buf) := hO
  have HC0 : Hid (w.cell? ⟨ob, 0, none⟩ = some (.int .i32 0)) := by show w.cell? ⟨ob, 0, none⟩ = _; rw [cell_of_heap hO.blk]; rfl
  have HF0 : Hid (w.frozen? ⟨ob, 0, none⟩ = false) := frozen_of_heap hO.blk 0
  have hlt := hO.lt1
  clear hO
  go_enter_defers Yba.func9, Yba.ntmps9
  go_wp2_with (go_at_call 13
               refine (lock_free Yba.muLib ⟨ob, 0, none⟩ _ ?e1 ?e2).mono ?_
               case e1 => rw [World.cell?_alloc_lt _ _ _ hlt]; exact HC0.out
               case e2 => rw [World.frozen?_alloc_past _ _ _ hlt]; exact HF0.out
               rintro e w1 ⟨rfl, hw1⟩
               have hob : (w.alloc (.cells #[.int .u32 0, .int .u32 0, .int .u32 0] 41)).heap[ob]? = w.heap[ob]? := Go.RowKit.Below.heap_alloc w _ ob hlt
               have t1 : Touch (w.alloc (.cells #[.int .u32 0, .int .u32 0, .int .u32 0] 41)) w1 ob := by rw [hw1]; exact touch_setCell _ _ _ _
               have h1 : w1.heap[ob]? = some (.cells (boxCells 1 sv asked cb) 35 (0, 0)) := by rw [hw1, heap_setCell (hob.trans HO.out.blk)]; rfl
               have h2 : w1.heap[w.heap.size]? = some (.cells #[.int .u32 0, .int .u32 0, .int .u32 0] 41 (0, 0)) := by rw [t1.other _ (by omega)]; exact heap_alloc_new w _
               have c2 : w1.cell? ⟨ob, 2, none⟩ = some sv := by rw [cell_of_heap h1]; rfl
               have c3 : w1.cell? ⟨ob, 3, none⟩ = some (.int .i64 asked) := by rw [cell_of_heap h1]; rfl
               have c4 : w1.cell? ⟨ob, 4, none⟩ = some (.slice none 0 0) := by rw [cell_of_heap h1]; rfl
               have f2 : w1.frozen? ⟨ob, 2, none⟩ = false := frozen_of_heap h1 2
               have r0 : w1.cell? ⟨w.heap.size, 0, none⟩ = some (.int .u32 0) := by rw [cell_of_heap h2]; rfl
               have r1 : w1.cell? ⟨w.heap.size, 1, none⟩ = some (.int .u32 0) := by rw [cell_of_heap h2]; rfl
               have r2 : w1.cell? ⟨w.heap.size, 2, none⟩ = some (.int .u32 0) := by rw [cell_of_heap h2]; rfl
               have g0 : w1.frozen? ⟨w.heap.size, 0, none⟩ = false := frozen_of_heap h2 0
               have g1 : w1.frozen? ⟨w.heap.size, 1, none⟩ = false := frozen_of_heap h2 1
               have g2 : w1.frozen? ⟨w.heap.size, 2, none⟩ = false := frozen_of_heap h2 2
               have hne : ¬ (ob = w.heap.size) := by omega
               have hne' : ¬ (w.heap.size = ob) := by omega
               have T1 : Hid (Touch (w.alloc (.cells #[.int .u32 0, .int .u32 0, .int .u32 0] 41)) w1 ob) := t1
               have H1 : Hid (w1.heap[ob]? = some (.cells (boxCells 1 sv asked cb) 35 (0, 0))) := h1
               have H2 : Hid (w1.heap[w.heap.size]? = some (.cells #[.int .u32 0, .int .u32 0, .int .u32 0] 41 (0, 0))) := h2
               clear h1 h2 t1 hw1 hob)
  go_region
  go_wp2_with fail
  refine wp_region_quiet_lit (by kernel_rfl) (by kernel_rfl) ?_
  repeat (first
    | (refine quiet_store_same rfl 41 (.tmp 6) (.tmp 49) rfl w.heap.size ?e1 #[.int .u32 0, .int .u32 0, .int .u32 0] ?e2 41 ?e3 size41 one3 ?_
       case e1 => rfl
       case e2 => rfl
       case e3 =>
         rintro W ⟨n, rfl⟩
         exact ((touch_setCell w1 ob 2 _).other w.heap.size hne').trans H2.out)
    | go_big_quiet_step (fail)
    | quiet_step (fail))
  refine wpQuiet_nil ?_
  intro _ hw'
  obtain ⟨nq, hw''⟩ := hw'
  subst hw''
  go_wp2_with fail
  have O2 : ((w1.setCell ⟨ob, 2, none⟩ (.slice none 0 0)).drew.drewN nq).heap[ob]? = some (.cells (boxCells 1 (.slice none 0 0) asked cb) 35 (0, 0)) := by
    show (w1.setCell ⟨ob, 2, none⟩ (.slice none 0 0)).heap[ob]? = _
    rw [heap_setCell H1.out]; rfl
  have R2 : ((w1.setCell ⟨ob, 2, none⟩ (.slice none 0 0)).drew.drewN nq).heap[w.heap.size]? = some (.cells #[.int .u32 0, .int .u32 0, .int .u32 0] 41 (0, 0)) := by
    show (w1.setCell ⟨ob, 2, none⟩ (.slice none 0 0)).heap[w.heap.size]? = _
    rw [(touch_setCell w1 ob 2 _).other _ hne']; exact H2.out
  have G2 : w.grownBy ((w1.setCell ⟨ob, 2, none⟩ (.slice none 0 0)).drew.drewN nq) (some ob) := by
    have ha := World.grownBy_alloc w (.cells #[.int .u32 0, .int .u32 0, .int .u32 0] 41) (some ob)
    refine ⟨T1.out.os.trans ha.os, T1.out.tape.trans ha.tape, T1.out.output.trans ha.output, ?_, fun k hk hne => ?_⟩
    · show w.heap.size ≤ (w1.setCell ⟨ob, 2, none⟩ (.slice none 0 0)).heap.size
      rw [(touch_setCell w1 ob 2 _).size, T1.out.size]; exact ha.size
    · show (w1.setCell ⟨ob, 2, none⟩ (.slice none 0 0)).heap[k]? = _
      have hko : k ≠ ob := fun e => hne (by rw [e])
      rw [(touch_setCell w1 ob 2 _).other _ hko, T1.out.other _ hko]
      exact ha.block k hk hne
  generalize (w1.setCell ⟨ob, 2, none⟩ (.slice none 0 0)).drew.drewN nq = w2 at O2 R2 G2 ⊢
  clear c2 c3 c4 f2 r0 r1 r2 g0 g1 g2
  refine leaves_cons (f := 15) (args := #[.pointer (some ⟨ob, 0, none⟩)]) (by simp) (by simp [go_sem]) ?_
  refine (unlock_deferred Yba.muLib ⟨ob, 0, none⟩ .returning _ ?_ ?_).mono ?_
  · rw [cell_of_heap O2]; rfl
  · exact frozen_of_heap O2 0
  rintro e u' w'' ⟨rfl, rfl, rfl⟩
  have R3 : (w2.setCell ⟨ob, 0, none⟩ (.int .i32 0)).heap[w.heap.size]? = some (.cells #[.int .u32 0, .int .u32 0, .int .u32 0] 41 (0, 0)) := by
    rw [(touch_setCell w2 ob 0 _).other _ hne']; exact R2
  have O3 : (w2.setCell ⟨ob, 0, none⟩ (.int .i32 0)).heap[ob]? = some (.cells (boxCells 0 (.slice none 0 0) asked cb) 35 (0, 0)) := by
    rw [heap_setCell O2]; rfl
  have r0 := cell_of_heap R3 0
  have r1 := cell_of_heap R3 1
  have r2 := cell_of_heap R3 2
  have G3 : w.grownBy (w2.setCell ⟨ob, 0, none⟩ (.int .i32 0)) (some ob) := by
    have ht := touch_setCell w2 ob 0 (.int .i32 0)
    exact ⟨ht.os.trans G2.os, ht.tape.trans G2.tape, ht.output.trans G2.output, by rw [ht.size]; exact G2.size, fun k hk hne => by rw [ht.other k (fun e => hne (by rw [e]))]; exact G2.block k hk hne⟩
  generalize w2.setCell ⟨ob, 0, none⟩ (.int .i32 0) = w3 at r0 r1 r2 O3 G3 ⊢
  refine ⟨.tuple #[sv, .int .i64 asked, .agg #[.int .u32 0, .int .u32 0, .int .u32 0], .bool false], ?_, rfl, O3, G3⟩
  simp [results, Yba.results9, go_sem, r0, r1, r2]
end Go.Proofs.Ybulkrxe
