import Derived.Test.YbulkrziDoorSearch
import Derived.Conc.RwLone
namespace Go.Proofs.YbulkrziDoor
open Go.Proofs Go.RowKit Go.RwLone
set_option maxRecDepth 100000

theorem rlock_pieces (w : World) (pb : Nat) (dv sv : Value) (L : Int) (hb : w.heap[pb]? = some (.cells (pcells 0 0 dv sv L) 50 (0, 0))) :
    Calls Ybad.prog 13 #[.pointer (some ⟨pb, 0, none⟩)] w fun e w' => e = .returned (.tuple #[]) ∧ w'.heap[pb]? = some (.cells (pcells 0 1 dv sv L) 50 (0, 0)) ∧ Touch w w' pb := by
  refine (rlock_open Ybad.rwRLib pb 0 0 (.int .i32 0) (.int .u32 0) w (by rw [cell_of_heap hb]; rfl) (by rw [cell_of_heap hb]; rfl) (by rw [cell_of_heap hb]; rfl) (frozen_of_heap hb _) (by unfold wrap32; omega)).mono ?_
  rintro e w' ⟨rfl, rfl⟩
  refine ⟨rfl, ?_, touch_setCell _ _ _ _⟩
  rw [heap_setCell hb, show wrap32 (0 + 1) = 1 by unfold wrap32; omega]
  rfl

theorem runlock_pieces (w : World) (pb : Nat) (dv sv : Value) (L : Int) (u : FrameMode) (hb : w.heap[pb]? = some (.cells (pcells 0 1 dv sv L) 50 (0, 0))) :
    CallsD Ybad.prog 14 #[.pointer (some ⟨pb, 0, none⟩)] u w fun e u' w' => u' = u ∧ (e = .returned (.tuple #[]) ∧ w'.heap[pb]? = some (.cells (pcells 0 0 dv sv L) 50 (0, 0)) ∧ Touch w w' pb) := by
  refine (runlock_deferred Ybad.rwRLib pb 0 1 (.int .i32 0) (.int .u32 0) u w (by rw [cell_of_heap hb]; rfl) (by rw [cell_of_heap hb]; rfl) (by rw [cell_of_heap hb]; rfl) (frozen_of_heap hb _) (by unfold wrap32; omega)).mono ?_
  rintro e u' w' ⟨rfl, rfl, rfl⟩
  refine ⟨rfl, rfl, ?_, touch_setCell _ _ _ _⟩
  rw [heap_setCell hb, show wrap32 (1 + -1) = 0 by unfold wrap32; omega]
  rfl

/-- A copy in a region that draws its order. -/
theorem draw_copy {P : Program} {ops : Array Oper} {op : Oper} {a : Act} {w : World} {K : Act → World → Prop} {Q : Exit → Act → World → Prop} {E : Prop} (hgd : op.guard = none) (s x : Operand) (t tx : TypeId) (ho : op.op = .call { callee := .builtin .copy, args := #[s, x], argTypes := #[t, tx] })
    (e : TypeId) (ht : P.underlying t = some (.slice e)) (hi : (P.info? e).map (·.size) = some 1)
    (g o dLen dCap : Nat) (hs : a.eval s = .slice (some ⟨g, o, none⟩) dLen dCap) (cur : Array Value) (hg : w.heap[g]? = some (.cells cur e (0, 0)))
    (b ob cap : Nat) (k : IntKind) (zs : List Int) (hx : a.eval x = .slice (some ⟨b, ob, none⟩) zs.length cap) (hc : ∀ j, j < zs.length → w.cell? ⟨b, ob + j, none⟩ = some (.int k (zs.getD j 0))) (hle : zs.length ≤ dLen) (hfit : o + zs.length ≤ cur.size)
    (h : ∀ w', w'.heap[g]? = some (.cells (splice cur o (zs.map (Value.int k))) e (0, 0)) → Touch w w' g → K (a.put op.dst (.int .i64 zs.length)) w') : if Region.wanted op (yielded ops a.tmps) = true then op.wp P a w K Q else E := by
  have hw : Region.wanted op (yielded ops a.tmps) = true := by simp [Region.wanted, hgd]
  rw [if_pos hw]
  have hr := run_copy_row P w t tx op.type e g o dLen dCap ⟨b, ob, none⟩ zs.length cap cur e (zs.map (Value.int k)) ht hi hg (by rw [List.length_map]; exact (Nat.min_eq_left hle).symm) (fun j v hv => by
    have hj : j < zs.length := by have := (List.getElem?_eq_some_iff.1 hv).1; simpa using this
    rw [Addr.add_lit, hc j hj]
    rw [List.getElem?_map, List.getElem?_eq_getElem hj] at hv
    simp only [Option.map_some, Option.some.injEq] at hv
    rw [← hv, List.getD, List.getElem?_eq_getElem hj]; rfl) (by simpa using hfit) (ints_oneCell k zs)
  have hr' : (Builtin.copy_ #[t, tx] op.type #[.slice (some ⟨g, o, none⟩) dLen dCap, .slice (some ⟨b, ob, none⟩) zs.length cap]).run P w = .ok (.int .i64 zs.length) (w.setRow g (splice cur o (zs.map (Value.int k)))) := by simpa [goInt, splice] using hr
  unfold Oper.wp
  rw [exec_copy s x t tx ho hs hx hr']
  exact h _ (setRow_heap w g cur _ e _ hg) (touch_setRow _ _ _)

/-- The normal exit alone: where a function defers calls, a panic's exit looks at the frame, and the walk of a region's orders cannot take an operation first. -/
def Norm (Q : Exit → Act → World → Prop) : Exit → Act → World → Prop
  | .normal, a, w => Q .normal a w
  | _, _, _ => False
theorem norm_intro {Q : Exit → Act → World → Prop} {a : Act} {w : World} (h : Q .normal a w) : Norm Q .normal a w := h
theorem wp_normal {P : Program} {c : Code} {Q : Exit → Act → World → Prop} {a : Act} {w : World} (h : c.wp P (Norm Q) a w) : c.wp P Q a w :=
  Code.wp_mono (fun e a w h => by cases e <;> first | exact h | exact h.elim) h

set_option maxHeartbeats 4000000 in
theorem readAt_one (w : World) (pb g gc h hc jb jc : Nat) (zs : List Int) (o bb n : Nat) (cur : Array Value) (O : One w pb g gc h hc jb jc zs) (hbb : w.heap[bb]? = some (.cells cur 5 (0, 0))) (hcs : cur.size = n) (hon : o + n = zs.length) (hn : 0 < n) (hz : zs.length ≤ 2000000)
    (n1 : bb ≠ pb) :
    Calls Ybad.prog 7 #[.pointer (some ⟨pb, 0, none⟩), .slice (some ⟨bb, 0, none⟩) n n, .int .i64 o] w fun e w' => e = .returned (.tuple #[.int .i64 n, .nilIface]) ∧ w'.heap[bb]? = some (.cells (splice cur 0 (U (zs.drop o))) 5 (0, 0)) ∧ Mut w w' (fun k => k = pb ∨ k = bb) := by
  have HO : Hid (One w pb g gc h hc jb jc zs) := O
  have HBB : Hid (w.heap[bb]? = some (.cells cur 5 (0, 0))) := hbb
  have HON : Hid (o + n = zs.length) := hon
  have HCS : Hid (cur.size = n) := hcs
  have hgc := O.cap1
  have hhc := O.cap2
  have hjc := O.cap3
  have hjm := O.max3
  have hL : ∃ L, zs.length = L := ⟨_, rfl⟩
  obtain ⟨L, hL⟩ := hL
  have HL : Hid (zs.length = L) := hL
  rw [hL] at hon hz hjc
  unfold maxLen at hjm
  have c8 : w.cell? ⟨pb, 8, none⟩ = some (.int .i64 L) := by rw [cell_of_heap O.blk, ← hL]; rfl
  clear O hbb hcs hL
  go_enter_defers Ybad.func7, Ybad.ntmps7
  go_wp2_with (go_at_call 13
               refine (rlock_pieces w pb _ _ _ HO.out.blk).mono ?_
               rintro e w1 ⟨rfl, k1, t1⟩
               have K1 : Hid (w1.heap[pb]? = some (.cells (pcells 0 1 (.slice (some ⟨g, 0, none⟩) 1 gc) (.slice (some ⟨h, 0, none⟩) 1 hc) L) 50 (0, 0))) := by have := HL.out; exact this ▸ k1
               have T1 : Hid (Touch w w1 pb) := t1
               have c6 : w1.cell? ⟨pb, 6, none⟩ = some (.slice (some ⟨g, 0, none⟩) 1 gc) := by rw [cell_of_heap k1]; rfl
               have c7 : w1.cell? ⟨pb, 7, none⟩ = some (.slice (some ⟨h, 0, none⟩) 1 hc) := by rw [cell_of_heap k1]; rfl
               have cg : w1.cell? ⟨g, 0, none⟩ = some (.slice (some ⟨jb, 0, none⟩) L jc) := by rw [t1.cell HO.out.ne1, ← HL.out]; exact HO.out.data
               have ch : w1.cell? ⟨h, 0, none⟩ = some (.int .i64 0) := by rw [t1.cell HO.out.ne2]; exact HO.out.start
               clear k1 t1)
  have HB1 : Hid (w1.heap[bb]? = some (.cells cur 5 (0, 0))) := by show w1.heap[bb]? = _; rw [T1.out.other bb n1]; exact HBB.out
  have HC1 : Hid (∀ j, j < (zs.drop o).length → w1.cell? ⟨jb, o + j, none⟩ = some (.int .u8 ((zs.drop o).getD j 0))) := by
    intro j hj
    rw [List.length_drop] at hj
    rw [T1.out.cell HO.out.ne3, HO.out.each (o + j) (by omega)]
    simp [List.getD]
  have HDL : Hid ((zs.drop o).length = n) := by show (zs.drop o).length = n; rw [List.length_drop]; have := HON.out; omega
  have hLn : L - o = n := by omega
  have hwo : IntKind.i64.wrap (o : Int) = o := by rw [IntKind.wrap_i64]; omega
  have hoL : (o : Int) ≤ L := by omega
  have ho0 : (0 : Int) ≤ o := by omega
  have hjo : ¬ (jc = o) := by omega
  refine (search_any w1 h hc o ch).mono ?_
  rintro e w2 ⟨rfl, rfl | rfl⟩
  all_goals go_wp2
  all_goals
    go_loopw [8, 10] (fun i m wr => (i = .int .i64 0 ∧ m = .int .i64 0 ∧ wr = w2) ∨ (i = .int .i64 1 ∧ m = .int .i64 n ∧ wr.heap[bb]? = some (.cells (splice cur 0 (U (zs.drop o))) 5 (0, 0)) ∧ Mut w2 wr (fun k => k = bb))) (fun i _ _ => 1 - (intOf i).toNat)
    case atStart => exact .inl ⟨rfl, rfl, rfl⟩
    case round =>
      rcases hrel with ⟨rfl, rfl, rfl⟩ | ⟨rfl, rfl, hk3, hm3⟩
      · go_wp2_with fail
        refine wp_normal ?_
        go_region_law (refine draw_copy rfl (.tmp 60) (.tmp 79) 26 26 rfl 5 Ybad.underlying26 size5 bb 0 n n rfl cur HB1.out jb o (jc - o) .u8 (zs.drop o) ?ex HC1.out ?le ?fit ?_
                       case ex => rw [HDL.out]; rfl
                       case le => rw [HDL.out]; exact Nat.le_refl _
                       case fit => rw [HDL.out, HCS.out, Nat.zero_add]; exact Nat.le_refl _
                       rw [HDL.out]
                       intro w3 k3 t3
                       have K3 : Hid (w3.heap[bb]? = some (.cells (splice cur 0 (U (zs.drop o))) 5 (0, 0))) := k3
                       have M3 : Hid (Mut wr w3 (fun k => k = bb)) := ((Mut.refl wr _).drew).then t3.mut (fun k _ e => e)
                       clear k3 t3)
        all_goals refine norm_intro ?_
        all_goals go_wp2_with fail
        all_goals exact ⟨.inr ⟨rfl, rfl, K3.out, M3.out⟩, by simp [intOf]⟩
      · have K3 : Hid (wr.heap[bb]? = some (.cells (splice cur 0 (U (zs.drop o))) 5 (0, 0))) := hk3
        have M3 : Hid (Mut w2 wr (fun k => k = bb)) := hm3
        have P3 : Hid (wr.heap[pb]? = some (.cells (pcells 0 1 (.slice (some ⟨g, 0, none⟩) 1 gc) (.slice (some ⟨h, 0, none⟩) 1 hc) L) 50 (0, 0))) := by
          show wr.heap[pb]? = _
          rw [hm3.block pb (Array.getElem?_eq_some_iff.1 K1.out).1 (Ne.symm n1)]; exact K1.out
        have c63 : wr.cell? ⟨pb, 6, none⟩ = some (.slice (some ⟨g, 0, none⟩) 1 gc) := by rw [cell_of_heap P3.out]; rfl
        clear hk3 hm3
        go_wp2
        refine leaves_cons (f := 14) (args := #[.pointer (some ⟨pb, 0, none⟩)]) (by simp) (by simp [go_sem]) ?_
        refine (runlock_pieces _ pb _ _ _ .returning P3.out).mono ?_
        rintro e u' w4 ⟨rfl, rfl, k4, t4⟩
        refine ⟨_, results_tmp2 rfl _ _ _, rfl, ?_, ?_⟩
        · rw [t4.other bb n1]; exact K3.out
        · exact (T1.out.mut.mono (fun k _ e => .inl e)).then (M3.out.mono (fun k _ e => .inr e)) (fun k _ e => e) |>.then t4.mut (fun k _ e => .inl e)
end Go.Proofs.YbulkrziDoor
