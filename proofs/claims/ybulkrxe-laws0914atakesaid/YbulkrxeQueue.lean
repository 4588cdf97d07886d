import Derived.Test.YbulkrxeEqual
import Derived.Test.YbulkrxeWake
import Derived.Test.YbulkrxeLocks
import Derived.Conc.MuLone
namespace Go.Proofs.Ybulkrxe
open Go.Proofs Go.RowKit Go.Conc Go.MuLone
set_option maxRecDepth 100000

theorem size22 : (Yba.prog.info? 22).map (·.size) = some 1 := by kernel_rfl

/-- One block has turned, no other. -/
structure Touch (w w' : World) (b : Nat) : Prop where
  os : w'.os = w.os
  tape : w'.tape = w.tape
  output : w'.output = w.output
  size : w'.heap.size = w.heap.size
  other : ∀ k, k ≠ b → w'.heap[k]? = w.heap[k]?

theorem Touch.refl (w : World) (b : Nat) : Touch w w b := ⟨rfl, rfl, rfl, rfl, fun _ _ => rfl⟩
theorem Touch.below {w w' : World} {b B : Nat} (h : Touch w w' b) (hb : B ≤ b) : Below B w w' := ⟨h.os, h.tape, h.output, by rw [h.size]; exact Nat.le_refl _, fun k hk => h.other k (by omega)⟩
theorem touch_setCell (w : World) (b o : Nat) (v : Value) : Touch w (w.setCell ⟨b, o, none⟩ v) b :=
  ⟨rfl, rfl, rfl, by simp [World.setCell], fun k hk => by simp [World.setCell, Array.getElem?_modify, Ne.symm hk]⟩
theorem touch_setChan (w : World) (c cap : Nat) (buf : Array Value) (cl : Bool) (s r : Nat) (tm : Bool) : Touch w (w.setChan c cap buf cl s r tm) c :=
  ⟨rfl, rfl, rfl, by simp [World.setChan], fun k hk => by simp only [World.setChan]; rw [Array.getElem?_setIfInBounds_ne (Ne.symm hk)]⟩
theorem heap_setCell {w : World} {b o : Nat} {v : Value} {cs : Array Value} {t : TypeId} {fz : Nat × Nat} (h : w.heap[b]? = some (.cells cs t fz)) : (w.setCell ⟨b, o, none⟩ v).heap[b]? = some (.cells (cs.setIfInBounds o v) t fz) := by
  simp [World.setCell, Array.getElem?_modify, h]
theorem cell_of_heap {w : World} {b : Nat} {cs : Array Value} {t : TypeId} {fz : Nat × Nat} (h : w.heap[b]? = some (.cells cs t fz)) (o : Nat) : w.cell? ⟨b, o, none⟩ = cs[o]? := by
  simp [World.cell?, h]
theorem frozen_of_heap {w : World} {b : Nat} {cs : Array Value} {t : TypeId} (h : w.heap[b]? = some (.cells cs t (0, 0))) (o : Nat) : w.frozen? ⟨b, o, none⟩ = false := by
  simp [World.frozen?, h]

/-- An outbox's six cells. -/
def boxCells (st : Int) (sv : Value) (asked : Int) (cb : Nat) : Array Value := #[.int .i32 st, .int .u32 0, sv, .int .i64 asked, .slice none 0 0, .chan (some cb)]

/-- The outbox in memory: its block, its channel's block; its messages' row lies apart from both. -/
structure Outbox (w : World) (B ob cb : Nat) (st : Int) (sv : Value) (asked : Int) (buf : Array Value) : Prop where
  blk : w.heap[ob]? = some (.cells (boxCells st sv asked cb) 35 (0, 0))
  chan : ∃ s r, w.heap[cb]? = some (.chan 1 buf false s r false)
  ne : ob ≠ cb
  ap1 : sv.ownBlock ≠ some ob
  ap2 : sv.ownBlock ≠ some cb
  lb1 : B ≤ ob
  lb2 : B ≤ cb

theorem Outbox.lt1 {w : World} {B ob cb : Nat} {st : Int} {sv : Value} {asked : Int} {buf : Array Value} (h : Outbox w B ob cb st sv asked buf) : ob < w.heap.size := (Array.getElem?_eq_some_iff.1 h.blk).1
theorem Outbox.lt2 {w : World} {B ob cb : Nat} {st : Int} {sv : Value} {asked : Int} {buf : Array Value} (h : Outbox w B ob cb st sv asked buf) : cb < w.heap.size := by
  obtain ⟨s, r, hc⟩ := h.chan; exact (Array.getElem?_eq_some_iff.1 hc).1

theorem wake_any (w : World) (B ob cb : Nat) (st : Int) (sv : Value) (asked : Int) (buf : Array Value) (hO : Outbox w B ob cb st sv asked buf) (hbuf : buf = #[] ∨ buf = #[.agg #[]]) :
    Calls Yba.prog 16 #[.pointer (some ⟨ob, 0, none⟩)] w fun e w' => e = .returned (.tuple #[]) ∧ Touch w w' cb ∧ Outbox w' B ob cb st sv asked #[.agg #[]] := by
  obtain ⟨s, r, hc⟩ := hO.chan
  have hq : w.cell? ⟨ob, 5, none⟩ = some (.chan (some cb)) := by rw [cell_of_heap hO.blk]; rfl
  rcases hbuf with rfl | rfl
  · refine (wake_room w ob cb s r false hq hc).mono ?_
    rintro e w' ⟨rfl, rfl⟩
    have ht := touch_setChan w cb 1 #[.agg #[]] false (s + 1) r false
    exact ⟨rfl, ht, by rw [ht.other ob hO.ne]; exact hO.blk, ⟨s + 1, r, heap_setChan w cb 1 _ false (s + 1) r false hO.lt2⟩, hO.ne, hO.ap1, hO.ap2, hO.lb1, hO.lb2⟩
  · refine (wake_full w ob cb s r false _ hq hc).mono ?_
    rintro e w' ⟨rfl, rfl⟩
    exact ⟨rfl, Touch.refl _ _, hO⟩

/-- The outbox behind a turn of its messages' row. -/
theorem Outbox.step {w w' : World} {B ob cb : Nat} {st : Int} {sv sv' : Value} {asked : Int} {buf : Array Value} (h : Outbox w B ob cb st sv asked buf) (hs : Step w sv w' sv') :
    w'.heap[ob]? = some (.cells (boxCells st sv asked cb) 35 (0, 0)) ∧ (∃ s r, w'.heap[cb]? = some (.chan 1 buf false s r false)) ∧ sv'.ownBlock ≠ some ob ∧ sv'.ownBlock ≠ some cb := by
  refine ⟨by rw [hs.beside h.lt1 h.ap1]; exact h.blk, ?_, hs.apart h.lt1 h.ap1, hs.apart h.lt2 h.ap2⟩
  obtain ⟨s, r, hc⟩ := h.chan
  exact ⟨s, r, by rw [hs.beside h.lt2 h.ap2]; exact hc⟩

/-- A store into the outbox's own block. -/
theorem Outbox.store {w : World} {B ob cb : Nat} {st : Int} {sv sv' : Value} {asked : Int} {buf : Array Value} (hb : w.heap[ob]? = some (.cells (boxCells st sv asked cb) 35 (0, 0))) (hc : ∃ s r, w.heap[cb]? = some (.chan 1 buf false s r false))
    (hne : ob ≠ cb) (h1 : sv'.ownBlock ≠ some ob) (h2 : sv'.ownBlock ≠ some cb) (b1 : B ≤ ob) (b2 : B ≤ cb) : Outbox (w.setCell ⟨ob, 2, none⟩ sv') B ob cb st sv' asked buf := by
  refine ⟨by rw [heap_setCell hb]; rfl, ?_, hne, h1, h2, b1, b2⟩
  obtain ⟨s, r, hc⟩ := hc
  exact ⟨s, r, by rw [(touch_setCell w ob 2 sv').other cb (Ne.symm hne)]; exact hc⟩
theorem Outbox.lock {w : World} {B ob cb : Nat} {st : Int} {sv : Value} {asked : Int} {buf : Array Value} (h : Outbox w B ob cb st sv asked buf) (st' : Int) : Outbox (w.setCell ⟨ob, 0, none⟩ (.int .i32 st')) B ob cb st' sv asked buf := by
  refine ⟨by rw [heap_setCell h.blk]; rfl, ?_, h.ne, h.ap1, h.ap2, h.lb1, h.lb2⟩
  obtain ⟨s, r, hc⟩ := h.chan
  exact ⟨s, r, by rw [(touch_setCell w ob 0 _).other cb (Ne.symm h.ne)]; exact hc⟩
theorem Own.touch {w w' : World} {e : TypeId} {sv : Value} {xs : List Value} {b : Nat} (h : Own w e sv xs) (ht : Touch w w' b) (hne : sv.ownBlock ≠ some b) : Own w' e sv xs :=
  h.same fun k hk => ht.other k (fun e => hne (by rw [hk, e]))

set_option maxHeartbeats 2000000 in
theorem queue_any (w : World) (B ob cb : Nat) (sv : Value) (asked : Int) (buf : Array Value) (xs : List Int) (typ : Int) (dv : Value) (ds : List Int) (av : Value) (zs : List Int)
    (hO : Outbox w B ob cb 0 sv asked buf) (hbuf : buf = #[] ∨ buf = #[.agg #[]]) (hown : Own w 5 sv (U xs)) (hB : B ≤ w.heap.size) (hs : ∀ k, sv.ownBlock = some k → B ≤ k)
    (hd : Reads w B .u8 dv ds) (ha : Reads w B .u32 av zs) (hz : ∀ z ∈ zs, 0 ≤ z ∧ z ≤ 4294967295) (hdl : ds.length ≤ 1024) (hzl : zs.length ≤ 256) (hn : xs.length ≤ 10000) :
    Calls Yba.prog 6 #[.pointer (some ⟨ob, 0, none⟩), .int .u8 typ, dv, av] w fun e w' => e = .returned (.tuple #[]) ∧ ∃ sv', Outbox w' B ob cb 0 sv' asked #[.agg #[]] ∧ Own w' 5 sv' (U (xs ++ frame typ ds zs)) ∧
      (∀ k, sv'.ownBlock = some k → B ≤ k) ∧ Below B w w' := by
  have HO : Hid (Outbox w B ob cb 0 sv asked buf) := hO
  have HBF : Hid (buf = #[] ∨ buf = #[.agg #[]]) := hbuf
  have HN : Hid (Own w 5 sv (U xs)) := hown
  have HS : Hid (∀ k, sv.ownBlock = some k → B ≤ k) := hs
  have HD : Hid (Reads w B .u8 dv ds) := hd
  have HA : Hid (Reads w B .u32 av zs) := ha
  have HZ : Hid (∀ z ∈ zs, 0 ≤ z ∧ z ≤ 4294967295) := hz
  have HC0 : Hid (w.cell? ⟨ob, 0, none⟩ = some (.int .i32 0)) := by show w.cell? ⟨ob, 0, none⟩ = _; rw [cell_of_heap hO.blk]; rfl
  have HF0 : Hid (w.frozen? ⟨ob, 0, none⟩ = false) := frozen_of_heap hO.blk 0
  obtain ⟨da, dcap, rfl⟩ := hd.len
  clear hO hbuf hown hs hd ha hz
  go_enter Yba.func6, Yba.ntmps6
  go_wp2_with (first
    | (go_at_call 13
       refine (lock_free Yba.muLib ⟨ob, 0, none⟩ _ HC0.out HF0.out).mono ?_
       rintro e w1 ⟨rfl, hw1⟩
       have h1 : Outbox w1 B ob cb 1 sv asked buf := by rw [hw1]; exact HO.out.lock 1
       have t1 : Touch w w1 ob := by rw [hw1]; exact touch_setCell _ _ _ _
       have O1 : Hid (Outbox w1 B ob cb 1 sv asked buf) := h1
       have T1 : Hid (Touch w w1 ob) := t1
       have hc2 : w1.cell? ⟨ob, 2, none⟩ = some sv := by rw [cell_of_heap h1.blk]; rfl
       clear h1 t1 hw1)
    | (go_at_call 14
       refine (head_any w1 B sv xs typ ds.length av zs (HN.out.touch T1.out HO.out.ap1) (by rw [T1.out.size]; exact hB) HS.out (HA.out.below (T1.out.below HO.out.lb1)) HZ.out hzl hdl (by omega)).mono ?_
       rintro e w2 ⟨sv1, rfl, h1, h2⟩
       have H1 : Hid (Own w2 5 sv1 (U (xs ++ head typ ds.length zs))) := h1
       have H2 : Hid (Step w1 sv w2 sv1) := h2
       clear h1 h2)
    | (at_builtin
       refine step_append rfl (.tmp 21) (.tmp 22) 22 22 rfl 5 (.int .u8 0) 1 Yba.underlying22 info5 rfl sv1 (U (xs ++ head typ ds.length zs)) ?e1 H1.out (.slice da ds.length dcap) ?e3 ds.length (U ds) ?e4 ?e5 ?e6 ?_
       case e1 => rfl
       case e3 => rfl
       case e4 => exact ((HD.out.below (T1.out.below HO.out.lb1)).below (H2.out.below HS.out (by rw [T1.out.size]; exact hB))).src Yba.underlying22
       case e5 => exact (bound_append (by have := len_bes zs zs.length; simp [head, be]; omega) (by omega)).1
       case e6 => exact (bound_append (by have := len_bes zs zs.length; simp [head, be]; omega) (by omega)).2
       intro sv2 w3 h1 h2
       have H3 : Hid (Own w3 5 sv2 (U (xs ++ frame typ ds zs))) := by rw [frame, ← List.append_assoc, ← U_append]; exact h1
       have h4 : Step w1 sv w3 sv2 := H2.out.trans h2
       have H4 : Hid (Step w1 sv w3 sv2) := h4
       have O3 := O1.out.step h4
       have hc3 : w3.cell? ⟨ob, 2, none⟩ = some sv := by rw [cell_of_heap O3.1]; rfl
       have hf3 : w3.frozen? ⟨ob, 2, none⟩ = false := frozen_of_heap O3.1 2
       have O4 : Hid (Outbox (w3.setCell ⟨ob, 2, none⟩ sv2) B ob cb 1 sv2 asked buf) := Outbox.store O3.1 O3.2.1 HO.out.ne O3.2.2.1 O3.2.2.2 HO.out.lb1 HO.out.lb2
       clear h1 h2 h4 O3 hc2)
    | (refine step_store1 rfl 22 (.tmp 25) (.tmp 23) rfl ob 2 ?e1 sv2 sv ?e2 ?e3 hc3 hf3 ?e4 ?_
       case e1 => rfl
       case e2 => rfl
       case e3 => exact H3.out.one
       case e4 => exact size22)
    | (go_at_call 15
       refine (unlock_held Yba.muLib ⟨ob, 0, none⟩ _ (by rw [cell_of_heap O4.out.blk]; rfl) (frozen_of_heap O4.out.blk 0)).mono ?_
       rintro e w5 ⟨rfl, hw5⟩
       have O5 : Hid (Outbox w5 B ob cb 0 sv2 asked buf) := by show Outbox w5 B ob cb 0 sv2 asked buf; rw [hw5]; exact O4.out.lock 0
       have T5 : Hid (Touch (w3.setCell ⟨ob, 2, none⟩ sv2) w5 ob) := by show Touch _ _ _; rw [hw5]; exact touch_setCell _ _ _ _
       clear hw5 hc3 hf3)
    | (go_at_call 16
       refine (wake_any w5 B ob cb 0 sv2 asked buf O5.out HBF.out).mono ?_
       rintro e w6 ⟨rfl, t6, o6⟩
       have T6 : Hid (Touch w5 w6 cb) := t6
       have O6 : Hid (Outbox w6 B ob cb 0 sv2 asked #[.agg #[]]) := o6
       clear t6 o6))
  go_end0
  refine ⟨rfl, sv2, O6.out, ?_, ?_, ?_⟩
  · exact ((H3.out.touch (touch_setCell w3 ob 2 sv2) O4.out.ap1).touch T5.out O5.out.ap1).touch T6.out O5.out.ap2
  · exact H4.out.since HS.out (by rw [T1.out.size]; exact hB)
  · exact (((((T1.out.below HO.out.lb1).trans (H4.out.below HS.out (by rw [T1.out.size]; exact hB))).trans ((touch_setCell w3 ob 2 sv2).below HO.out.lb1)).trans (T5.out.below HO.out.lb1)).trans (T6.out.below HO.out.lb2))
end Go.Proofs.Ybulkrxe
