import Derived.Test.YbulkrziDoorJoin
import Derived.Test.YbulkrziDoorLocks
import Derived.Conc.RwLoneW
namespace Go.Proofs.YbulkrziDoor
open Go.Proofs Go.RowKit Go.RwLone
set_option maxRecDepth 100000

theorem wlock_pieces (w : World) (pb : Nat) (dv sv : Value) (L : Int) (hb : w.heap[pb]? = some (.cells (pcells 0 0 dv sv L) 50 (0, 0))) :
    Calls Ybad.prog 10 #[.pointer (some ⟨pb, 0, none⟩)] w fun e w' => e = .returned (.tuple #[]) ∧ w'.heap[pb]? = some (.cells (pcells 1 (-1073741824) dv sv L) 50 (0, 0)) ∧ Touch w w' pb := by
  refine (wlock_free Ybad.rwWLib pb 0 (.int .u32 0) (.int .u32 0) w (by rw [cell_of_heap hb]; rfl) (by rw [cell_of_heap hb]; rfl) (by rw [cell_of_heap hb]; rfl) (by rw [cell_of_heap hb]; rfl) (frozen_of_heap hb _) (frozen_of_heap hb _)).mono ?_
  rintro e w' ⟨rfl, rfl⟩
  refine ⟨rfl, ?_, (touch_setCell _ _ _ _).trans (touch_setCell _ _ _ _)⟩
  rw [heap_setCell (heap_setCell hb)]
  rfl

theorem wunlock_pieces (w : World) (pb : Nat) (dv sv : Value) (L : Int) (u : FrameMode) (hb : w.heap[pb]? = some (.cells (pcells 1 (-1073741824) dv sv L) 50 (0, 0))) :
    CallsD Ybad.prog 11 #[.pointer (some ⟨pb, 0, none⟩)] u w fun e u' w' => u' = u ∧ (e = .returned (.tuple #[]) ∧ w'.heap[pb]? = some (.cells (pcells 0 0 dv sv L) 50 (0, 0)) ∧ Touch w w' pb) := by
  refine (wunlock_deferred Ybad.rwWLib pb 0 (.int .u32 0) (.int .u32 0) u w (by rw [cell_of_heap hb]; rfl) (by rw [cell_of_heap hb]; rfl) (by rw [cell_of_heap hb]; rfl) (by rw [cell_of_heap hb]; rfl) (frozen_of_heap hb _) (frozen_of_heap hb _)).mono ?_
  rintro e u' w' ⟨rfl, rfl, rfl⟩
  refine ⟨rfl, rfl, ?_, (touch_setCell _ _ _ _).trans (touch_setCell _ _ _ _)⟩
  rw [heap_setCell (heap_setCell hb)]
  rfl

/-- A 'pieces' of one piece, the lock free. -/
structure One (w : World) (pb g gc h hc jb jc : Nat) (zs : List Int) : Prop where
  blk : w.heap[pb]? = some (.cells (pcells 0 0 (.slice (some ⟨g, 0, none⟩) 1 gc) (.slice (some ⟨h, 0, none⟩) 1 hc) zs.length) 50 (0, 0))
  data : w.cell? ⟨g, 0, none⟩ = some (.slice (some ⟨jb, 0, none⟩) zs.length jc)
  start : w.cell? ⟨h, 0, none⟩ = some (.int .i64 0)
  each : ∀ j, j < zs.length → w.cell? ⟨jb, j, none⟩ = some (.int .u8 (zs.getD j 0))
  ne1 : g ≠ pb
  ne2 : h ≠ pb
  ne3 : jb ≠ pb
  lt1 : g < w.heap.size
  lt2 : h < w.heap.size
  lt3 : jb < w.heap.size
  cap1 : 1 ≤ gc
  cap2 : 1 ≤ hc
  cap3 : zs.length ≤ jc
  max1 : gc ≤ maxLen
  max2 : hc ≤ maxLen
  max3 : jc ≤ maxLen

theorem Touch.cell {w w' : World} {b : Nat} (h : Touch w w' b) {g o : Nat} (hg : g ≠ b) : w'.cell? ⟨g, o, none⟩ = w.cell? ⟨g, o, none⟩ := by
  simp [World.cell?, h.other g hg]

theorem One.touch {w w' : World} {pb g gc h hc jb jc : Nat} {zs : List Int} (o : One w pb g gc h hc jb jc zs) (t : Touch w w' pb)
    (hb : w'.heap[pb]? = some (.cells (pcells 0 0 (.slice (some ⟨g, 0, none⟩) 1 gc) (.slice (some ⟨h, 0, none⟩) 1 hc) zs.length) 50 (0, 0))) : One w' pb g gc h hc jb jc zs :=
  ⟨hb, by rw [t.cell o.ne1]; exact o.data, by rw [t.cell o.ne2]; exact o.start, fun j hj => by rw [t.cell o.ne3]; exact o.each j hj, o.ne1, o.ne2, o.ne3, by rw [t.size]; exact o.lt1, by rw [t.size]; exact o.lt2, by rw [t.size]; exact o.lt3, o.cap1, o.cap2, o.cap3, o.max1, o.max2, o.max3⟩

set_option maxHeartbeats 4000000 in
/-- (*pieces).flat, where there is one piece. -/
theorem flat_one (w : World) (pb g gc h hc jb jc : Nat) (zs : List Int) (o : One w pb g gc h hc jb jc zs) :
    Calls Ybad.prog 6 #[.pointer (some ⟨pb, 0, none⟩)] w fun e w' => e = .returned (.slice (some ⟨jb, 0, none⟩) zs.length jc) ∧ One w' pb g gc h hc jb jc zs ∧ Touch w w' pb := by
  have HO : Hid (One w pb g gc h hc jb jc zs) := o
  clear o
  go_enter_defers Ybad.func6, Ybad.ntmps6
  go_wp2_with (go_at_call 10
               refine (wlock_pieces w pb _ _ _ HO.out.blk).mono ?_
               rintro e w1 ⟨rfl, k1, t1⟩
               have K1 : Hid (w1.heap[pb]? = some (.cells (pcells 1 (-1073741824) (.slice (some ⟨g, 0, none⟩) 1 gc) (.slice (some ⟨h, 0, none⟩) 1 hc) zs.length) 50 (0, 0))) := k1
               have T1 : Hid (Touch w w1 pb) := t1
               have c6 : w1.cell? ⟨pb, 6, none⟩ = some (.slice (some ⟨g, 0, none⟩) 1 gc) := by rw [cell_of_heap k1]; rfl
               have cg : w1.cell? ⟨g, 0, none⟩ = some (.slice (some ⟨jb, 0, none⟩) zs.length jc) := by rw [t1.cell HO.out.ne1]; exact HO.out.data
               clear k1 t1)
  refine leaves_cons (f := 11) (args := #[.pointer (some ⟨pb, 0, none⟩)]) (by simp) (by simp [go_sem]) ?_
  refine (wunlock_pieces _ pb _ _ _ .returning K1.out).mono ?_
  rintro e u' w2 ⟨rfl, rfl, k2, t2⟩
  exact ⟨_, results_tmp rfl _ _ _, rfl, HO.out.touch (T1.out.trans t2) k2, T1.out.trans t2⟩

set_option maxHeartbeats 4000000 in
/-- Where there is none. -/
theorem flat_none (w : World) (pb : Nat) (a : Option Addr) (cap : Nat) (sv : Value) (L : Int) (hb : w.heap[pb]? = some (.cells (pcells 0 0 (.slice a 0 cap) sv L) 50 (0, 0))) :
    Calls Ybad.prog 6 #[.pointer (some ⟨pb, 0, none⟩)] w fun e w' => e = .returned (.slice none 0 0) ∧ w'.heap[pb]? = some (.cells (pcells 0 0 (.slice a 0 cap) sv L) 50 (0, 0)) ∧ Touch w w' pb := by
  have HB : Hid (w.heap[pb]? = some (.cells (pcells 0 0 (.slice a 0 cap) sv L) 50 (0, 0))) := hb
  clear hb
  go_enter_defers Ybad.func6, Ybad.ntmps6
  go_wp2_with (go_at_call 10
               refine (wlock_pieces w pb _ _ _ HB.out).mono ?_
               rintro e w1 ⟨rfl, k1, t1⟩
               have K1 : Hid (w1.heap[pb]? = some (.cells (pcells 1 (-1073741824) (.slice a 0 cap) sv L) 50 (0, 0))) := k1
               have T1 : Hid (Touch w w1 pb) := t1
               have c6 : w1.cell? ⟨pb, 6, none⟩ = some (.slice a 0 cap) := by rw [cell_of_heap k1]; rfl
               clear k1 t1)
  refine leaves_cons (f := 11) (args := #[.pointer (some ⟨pb, 0, none⟩)]) (by simp) (by simp [go_sem]) ?_
  refine (wunlock_pieces _ pb _ _ _ .returning K1.out).mono ?_
  rintro e u' w2 ⟨rfl, rfl, k2, t2⟩
  exact ⟨_, results_tmp rfl _ _ _, rfl, k2, T1.out.trans t2⟩

set_option maxHeartbeats 4000000 in
/-- Where there are more. -/
theorem flat_many (w : World) (B pb : Nat) (dv sv : Value) (vs : List Value) (ps : List (List Int)) (sts : List Int) (hP : Pieces w B pb 0 0 dv sv vs ps sts) (h2 : 2 ≤ ps.length)
    (hl : ∀ p ∈ ps, p.length ≤ 2000000) (hn : ps.length ≤ 1000) (hf : ps.flatten.length ≤ 1000000000) :
    Calls Ybad.prog 6 #[.pointer (some ⟨pb, 0, none⟩)] w fun e w' => ∃ g gc h hc jb jc, e = .returned (.slice (some ⟨jb, 0, none⟩) ps.flatten.length jc) ∧ One w' pb g gc h hc jb jc ps.flatten ∧ Mut w w' (fun k => k = pb) := by
  have HP : Hid (Pieces w B pb 0 0 dv sv vs ps sts) := hP
  have HLL : Hid (∀ p ∈ ps, p.length ≤ 2000000) := hl
  have HVL : Hid (vs.length = ps.length) := hP.vlen
  have hv2 : 2 ≤ vs.length := by rw [hP.vlen]; exact h2
  have hvm : vs.length ≤ 1000 := by rw [hP.vlen]; exact hn
  have HPB : Hid (pb < w.heap.size) := hP.lt
  obtain ⟨da, dc, hd⟩ := hP.data.len
  clear hP hl h2
  subst hd
  go_enter_defers Ybad.func6, Ybad.ntmps6
  go_wp2_with (go_at_call 10
               refine (wlock_pieces w pb _ _ _ HP.out.blk).mono ?_
               rintro e w1 ⟨rfl, k1, t1⟩
               have K1 : Hid (w1.heap[pb]? = some (.cells (pcells 1 (-1073741824) (.slice da vs.length dc) sv ps.flatten.length) 50 (0, 0))) := k1
               have T1 : Hid (Touch w w1 pb) := t1
               have c6 : w1.cell? ⟨pb, 6, none⟩ = some (.slice da vs.length dc) := by rw [cell_of_heap k1]; rfl
               clear k1 t1)
  have hO1 : Own w1 26 (.slice da vs.length dc) vs := HP.out.data.mut T1.out.mut (fun k hk e => HP.out.ap1 (e ▸ hk))
  have hE1 : ∀ j, j < vs.length → Own w1 5 (vs.getD j undef) (U (ps.getD j [])) := fun j hj => (HP.out.each j hj).1.mut T1.out.mut (fun k hk e => ((HP.out.each j hj).2 k hk).1 e)
  refine (join_any w1 _ vs ps hO1 HVL.out hv2 hE1 HP.out.pos HLL.out hn hf).mono ?_
  rintro e w2 ⟨rfl, hsz2, hcl, hmu2⟩
  have hpb1 : pb < w1.heap.size := by rw [T1.out.size]; exact HPB.out
  have K2 : Hid (w2.heap[pb]? = some (.cells (pcells 1 (-1073741824) (.slice da vs.length dc) sv ps.flatten.length) 50 (0, 0))) := by
    show w2.heap[pb]? = _
    rw [hmu2.block pb hpb1 (by omega)]; exact K1.out
  have M2 : Hid (Mut w w2 (fun k => k = pb)) := T1.out.mut.then hmu2 (fun k hk e => by have := T1.out.size; omega)
  have HCL : Hid (∀ j, j < ps.flatten.length → w2.cell? ⟨w1.heap.size, j, none⟩ = some (.int .u8 (ps.flatten.getD j 0))) := hcl
  have HS2 : Hid (w1.heap.size < w2.heap.size) := hsz2
  have hpb2 : pb < w2.heap.size := by omega
  have HNJ : Hid (w1.heap.size ≠ pb) := by show w1.heap.size ≠ pb; omega
  clear hO1 hE1 hcl hmu2 hsz2 c6 K1
  generalize w1.heap.size = jb at *
  have hfT : ∃ T, ps.flatten.length = T := ⟨_, rfl⟩
  obtain ⟨T, hT⟩ := hfT
  have HT0 : ∃ L, L = ps.flatten ∧ L.length = T := ⟨_, rfl, hT⟩
  rw [hT] at hf
  simp only [hT] at *
  have HT : Hid (ps.flatten.length = T) := by
    obtain ⟨L, rfl, h⟩ := HT0
    exact h
  clear hT HT0
  go_wp2_with (first
               | (refine step_storeB rfl 22 (.tmp 24) (.tmp 22) rfl pb 6 ?e1 (.slice (some ⟨w2.heap.size, 0, none⟩) 1 1) ?e2 rfl (pcells 1 (-1073741824) (.slice da vs.length dc) sv T) 50 ?e3 (show 6 < 9 by decide) sizeSS ?_
                  case e1 => rfl
                  case e2 => rfl
                  case e3 => exact (Below.heap_alloc w2 _ pb hpb2).trans K2.out
                  intro w3 k3 t3
                  have K3 : Hid (w3.heap[pb]? = some (.cells (pcells 1 (-1073741824) (.slice (some ⟨w2.heap.size, 0, none⟩) 1 1) sv T) 50 (0, 0))) := k3
                  have T3 : Hid (Touch (w2.alloc (.cells #[.slice (some ⟨jb, 0, none⟩) T T] 26)) w3 pb) := t3
                  have hpb3 : pb < w3.heap.size := (Array.getElem?_eq_some_iff.1 k3).1
                  clear k3 t3)
               | (refine step_storeB rfl 48 (.tmp 28) (.tmp 26) rfl pb 7 ?e1 (.slice (some ⟨w3.heap.size, 0, none⟩) 1 1) ?e2 rfl (pcells 1 (-1073741824) (.slice (some ⟨w2.heap.size, 0, none⟩) 1 1) sv T) 50 ?e3 (show 7 < 9 by decide) sizeLS ?_
                  case e1 => rfl
                  case e2 => rfl
                  case e3 => exact (Below.heap_alloc w3 _ pb hpb3).trans K3.out
                  intro w4 k4 t4
                  have K4 : Hid (w4.heap[pb]? = some (.cells (pcells 1 (-1073741824) (.slice (some ⟨w2.heap.size, 0, none⟩) 1 1) (.slice (some ⟨w3.heap.size, 0, none⟩) 1 1) T) 50 (0, 0))) := k4
                  have T4 : Hid (Touch (w3.alloc (.cells #[.int .i64 0] 2)) w4 pb) := t4
                  have c64 : w4.cell? ⟨pb, 6, none⟩ = some (.slice (some ⟨w2.heap.size, 0, none⟩) 1 1) := by rw [cell_of_heap k4]; rfl
                  have n3 : w3.heap.size = w2.heap.size + 1 := by rw [T3.out.size]; simp
                  have h24 : w4.heap[w2.heap.size]? = some (.cells #[.slice (some ⟨jb, 0, none⟩) T T] 26 (0, 0)) := by
                    rw [t4.other _ (by omega), Below.heap_alloc w3 _ _ (by omega), T3.out.other _ (by omega)]
                    exact heap_alloc_new w2 _
                  have cg4 : w4.cell? ⟨w2.heap.size, 0, none⟩ = some (.slice (some ⟨jb, 0, none⟩) T T) := by rw [cell_of_heap h24]; rfl
                  have HCG : Hid (w4.cell? ⟨w2.heap.size, 0, none⟩ = some (.slice (some ⟨jb, 0, none⟩) T T)) := cg4
                  have ch4 : Hid (w4.cell? ⟨w3.heap.size, 0, none⟩ = some (.int .i64 0)) := by
                    have h34 : w4.heap[w3.heap.size]? = some (.cells #[.int .i64 0] 2 (0, 0)) := by
                      rw [t4.other _ (by omega)]
                      exact heap_alloc_new w3 _
                    show w4.cell? _ = _
                    rw [cell_of_heap h34]; rfl
                  have N3 : Hid (w3.heap.size = w2.heap.size + 1) := n3
                  clear k4 t4 h24 n3))
  have s4 : w4.heap.size = w2.heap.size + 2 := by rw [T4.out.size]; simp [N3.out]
  refine leaves_cons (f := 11) (args := #[.pointer (some ⟨pb, 0, none⟩)]) (by simp) (by simp [go_sem]) ?_
  refine (wunlock_pieces _ pb _ _ _ .returning K4.out).mono ?_
  rintro e u' w5 ⟨rfl, rfl, k5, t5⟩
  have s3 := N3.out
  have hS2 := HS2.out
  have hNJ := HNJ.out
  have s5 := t5.size
  refine ⟨_, results_tmp rfl _ _ _, w2.heap.size, 1, w3.heap.size, 1, jb, T, ?_, ⟨?_, ?_, ?_, ?_, ?_, ?_, hNJ, ?_, ?_, ?_, Nat.le_refl _, Nat.le_refl _, ?_, ?_, ?_, ?_⟩, ?_⟩
  · rw [HT.out]; rfl
  · rw [HT.out]; exact k5
  · rw [HT.out, t5.cell (by omega)]; exact HCG.out
  · rw [t5.cell (by omega)]; exact ch4.out
  · intro j hj
    rw [HT.out] at hj
    have hc : ∀ {u u' : World}, u'.heap[jb]? = u.heap[jb]? → u'.cell? ⟨jb, j, none⟩ = u.cell? ⟨jb, j, none⟩ := by
      intro u u' h; simp [World.cell?, h]
    rw [t5.cell hNJ, T4.out.cell hNJ, hc (Below.heap_alloc w3 _ jb (by omega)), T3.out.cell hNJ, hc (Below.heap_alloc w2 _ jb (by omega))]
    exact HCL.out j hj
  · omega
  · omega
  · omega
  · omega
  · omega
  · rw [HT.out]; exact Nat.le_refl _
  · unfold maxLen; omega
  · unfold maxLen; omega
  · unfold maxLen; omega
  · exact (((M2.out.alloc _).then T3.out.mut (fun k _ e => e)).alloc _).then T4.out.mut (fun k _ e => e) |>.then t5.mut (fun k _ e => e)
end Go.Proofs.YbulkrziDoor
