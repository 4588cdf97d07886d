/-
  NEW BLOCKS, BY THEIR PLACES. 'Blocks w W os': the world W is w with the blocks 'os' (cells, element type) laid behind its heap, none frozen; nothing older has turned. The steps of a straight walk (box, alloc, make, load, store of whole rows) over it: each hands on an abstract world.
-/
import Derived.WalkKit
import Derived.Below
import Derived.Deep.MidRow
import Derived.Deep.Draws
import Derived.Laws.MakeOwn
import Derived.Laws.CopyRow
import Derived.Laws.Tables
namespace Go.Proofs.Ybulkrvo
open Go Go.RowKit

structure Blocks (w W : World) (os : List (Array Value × TypeId)) : Prop where
  eos : W.os = w.os
  etape : W.tape = w.tape
  eout : W.output = w.output
  size : W.heap.size = w.heap.size + os.length
  old : ∀ k, k < w.heap.size → W.heap[k]? = w.heap[k]?
  new : ∀ i c t, os[i]? = some (c, t) → W.heap[w.heap.size + i]? = some (.cells c t (0, 0))

theorem Blocks.refl (w : World) : Blocks w w [] := ⟨rfl, rfl, rfl, by simp, fun _ _ => rfl, fun i c t h => by simp at h⟩

theorem Blocks.below {w W : World} {os : List (Array Value × TypeId)} (h : Blocks w W os) : Below w.heap.size w W :=
  ⟨h.eos, h.etape, h.eout, by have := h.size; omega, h.old⟩

theorem Blocks.drew {w W : World} {os : List (Array Value × TypeId)} (h : Blocks w W os) : Blocks w W.drew os :=
  ⟨h.eos, h.etape, h.eout, h.size, h.old, h.new⟩

theorem Blocks.trans {w W W2 : World} {os os2 : List (Array Value × TypeId)} (h : Blocks w W os) (h2 : Blocks W W2 os2) : Blocks w W2 (os ++ os2) := by
  refine ⟨h2.eos.trans h.eos, h2.etape.trans h.etape, h2.eout.trans h.eout, ?_, ?_, ?_⟩
  · have := h.size; have := h2.size; simp only [List.length_append]; omega
  · intro k hk
    have hs := h.size
    rw [h2.old k (by omega)]; exact h.old k hk
  · intro i c t hi
    have hs := h.size
    by_cases hl : i < os.length
    · rw [List.getElem?_append_left hl] at hi
      rw [h2.old _ (by omega)]; exact h.new i c t hi
    · rw [List.getElem?_append_right (by omega)] at hi
      have := h2.new (i - os.length) c t hi
      rwa [show W.heap.size + (i - os.length) = w.heap.size + i by omega] at this

theorem Blocks.drewN {w W : World} {os : List (Array Value × TypeId)} (h : Blocks w W os) (n : Nat) : Blocks w (W.drewN n) os :=
  ⟨h.eos, h.etape, h.eout, h.size, h.old, h.new⟩

/-- One cell of a new block. -/
theorem Blocks.cell {w W : World} {os : List (Array Value × TypeId)} (h : Blocks w W os) (i : Nat) (c : Array Value) (t : TypeId) (hi : os[i]? = some (c, t)) (o : Nat) : W.cell? ⟨w.heap.size + i, o, none⟩ = c[o]? := by
  simp [World.cell?, h.new i c t hi]

theorem Blocks.alloc {w W : World} {os : List (Array Value × TypeId)} (h : Blocks w W os) (c : Array Value) (t : TypeId) : Blocks w (W.alloc (.cells c t (0, 0))) (os ++ [(c, t)]) := by
  refine ⟨h.eos, h.etape, h.eout, ?_, ?_, ?_⟩
  · have := h.size; simp only [World.alloc, Array.size_push, List.length_append, List.length_cons, List.length_nil]; omega
  · intro k hk
    have hs := h.size
    simp only [World.alloc]
    rw [Array.getElem?_push_lt (by omega), ← Array.getElem?_eq_getElem (by omega)]
    exact h.old k hk
  · intro i c' t' hi
    have hs := h.size
    simp only [World.alloc]
    by_cases hl : i < os.length
    · rw [List.getElem?_append_left hl] at hi
      rw [Array.getElem?_push_lt (by omega), ← Array.getElem?_eq_getElem (by omega)]
      exact h.new i c' t' hi
    · rw [List.getElem?_append_right (by omega)] at hi
      have he : i - os.length = 0 := by
        by_cases e : i - os.length = 0
        · exact e
        · obtain ⟨j, hj⟩ : ∃ j, i - os.length = j + 1 := ⟨i - os.length - 1, by omega⟩
          rw [hj] at hi; simp at hi
      rw [he] at hi
      simp at hi
      obtain ⟨rfl, rfl⟩ := hi
      have : w.heap.size + i = W.heap.size := by omega
      rw [this]; simp

/-- A row with the cells 'vs' laid over it from 'o' on. -/
def splice (c : Array Value) (o : Nat) (vs : List Value) : Array Value := (c.toList.take o ++ vs ++ c.toList.drop (o + vs.length)).toArray

theorem Blocks.setRow {w W : World} {os : List (Array Value × TypeId)} (h : Blocks w W os) (i : Nat) (c c' : Array Value) (t : TypeId) (hi : os[i]? = some (c, t)) :
    Blocks w (W.setRow (w.heap.size + i) c') (os.set i (c', t)) := by
  have hb := h.new i c t hi
  have hil : i < os.length := (List.getElem?_eq_some_iff.1 hi).1
  refine ⟨h.eos, h.etape, h.eout, ?_, ?_, ?_⟩
  · have := h.size; simp only [World.setRow, Array.size_modify, List.length_set]; omega
  · intro k hk
    simp only [World.setRow]
    rw [Array.getElem?_modify, if_neg (by omega)]
    exact h.old k hk
  · intro j c2 t2 hj
    by_cases e : j = i
    · subst e
      rw [List.getElem?_set_self hil] at hj
      simp at hj
      obtain ⟨rfl, rfl⟩ := hj
      exact setRow_heap W _ c _ t _ hb
    · rw [List.getElem?_set_ne (by omega)] at hj
      simp only [World.setRow]
      rw [Array.getElem?_modify, if_neg (by omega)]
      exact h.new j c2 t2 hj

/-! ### 'splice' -/
theorem size_splice {c : Array Value} {o : Nat} {vs : List Value} (h : o + vs.length ≤ c.size) : (splice c o vs).size = c.size := by
  simp [splice]; omega

theorem get_splice_in {c : Array Value} {o : Nat} {vs : List Value} (h : o + vs.length ≤ c.size) (j : Nat) (hj : j < vs.length) : (splice c o vs)[o + j]? = vs[j]? := by
  have hl : (c.toList.take o).length = o := by simp; omega
  simp only [splice, List.append_assoc, List.getElem?_toArray]
  rw [List.getElem?_append_right (by omega), hl, List.getElem?_append_left (by omega)]
  congr 1; omega

theorem get_splice_before {c : Array Value} {o : Nat} {vs : List Value} (h : o + vs.length ≤ c.size) (j : Nat) (hj : j < o) : (splice c o vs)[j]? = c[j]? := by
  have hl : (c.toList.take o).length = o := by simp; omega
  simp only [splice, List.append_assoc, List.getElem?_toArray]
  rw [List.getElem?_append_left (by omega), List.getElem?_take_of_lt hj]
  simp

theorem range_splice {c : Array Value} {o : Nat} {vs : List Value} (h : o + vs.length ≤ c.size) : (splice c o vs).extract o (o + vs.length) = vs.toArray := by
  apply Array.ext_getElem?
  intro i
  rw [Array.getElem?_extract, size_splice h]
  by_cases hi : i < vs.length
  · rw [if_pos (by omega), get_splice_in h i hi]; simp
  · rw [if_neg (by omega), eq_comm]; simp; omega

theorem splice_whole {c : Array Value} {vs : Array Value} (h : vs.size = c.size) : splice c 0 vs.toList = vs := by
  simp only [splice, List.take_zero, List.nil_append, Nat.zero_add]
  rw [List.drop_of_length_le (by simp; omega)]
  simp

theorem mem_splice {c : Array Value} {o : Nat} {vs : List Value} {v : Value} (h : v ∈ (splice c o vs).toList) : v ∈ c.toList ∨ v ∈ vs := by
  simp only [splice, List.mem_append] at h
  rcases h with (h | h) | h
  · exact .inl (List.mem_of_mem_take h)
  · exact .inr h
  · exact .inl (List.mem_of_mem_drop h)

theorem foldl_splice (o : Nat) : ∀ (vs : List Value) (k : Nat) (c : Array Value), o + k + vs.length ≤ c.size →
    (vs.zipIdx k).foldl (fun cs (x : Value × Nat) => cs.setIfInBounds (o + x.2) x.1) c = splice c (o + k) vs
  | [], k, c, _ => by simp [splice]
  | v :: r, k, c, h => by
    simp only [List.length_cons] at h
    rw [List.zipIdx_cons, List.foldl_cons, foldl_splice o r (k + 1) _ (by simp; omega)]
    have e := list_seg_step c.toList (o + k) v r (by simp; omega)
    simpa [splice, Array.toList_setIfInBounds, Nat.add_assoc] using e

theorem fill_cons (place : Nat → Option (Nat × Nat)) (c : Array Value) (i : Nat) (v : Value) (rest : List (Nat × Value)) (off : Nat) (hp : place i = some (off, v.cells.size)) (h : off + v.cells.size ≤ c.size) :
    Instr.fill place c ((i, v) :: rest) = Instr.fill place (splice c off v.cells.toList) rest := by
  rw [Instr.fill, hp]
  simp only [ne_eq, not_true_eq_false, decide_false, Bool.false_or]
  rw [if_neg (by simp; omega)]
  congr 1
  have := foldl_splice off v.cells.toList 0 c (by simpa using h)
  simp only [Nat.add_zero] at this
  rw [← this, ← Array.foldl_toList]
  simp

section
variable {P : Program} {ops : Array Oper} {rest : List Oper} {op : Oper} {a : Act} {w W : World} {Q : Exit → Act → World → Prop} {os : List (Array Value × TypeId)}

theorem wpList_value (hgd : Region.wanted op (yielded ops a.tmps) = true) {v : Value} {W' : World} (hrun : (execOp a.eval op).run P W = .ok (.value v) W') (h : wpList P ops Q rest (a.put op.dst v) W') :
    wpList P ops Q (op :: rest) a W :=
  wpList_step fun _ hK => by rw [if_pos hgd]; unfold Oper.wp; rw [hrun]; exact hK _ _ h
theorem wpList_skip (hgd : Region.wanted op (yielded ops a.tmps) = true) {W' : World} (hrun : (execOp a.eval op).run P W = .ok .skip W') (h : wpList P ops Q rest (a.put op.dst undef) W') :
    wpList P ops Q (op :: rest) a W :=
  wpList_step fun _ hK => by rw [if_pos hgd]; unfold Oper.wp; rw [hrun]; exact hK _ _ h

/-- 'box' of a row. -/
theorem step_box (hb : Blocks w W os) (hgd : Region.wanted op (yielded ops a.tmps) = true) (ty : TypeId) (x : Operand) (ho : op.op = .box ty x) (c : Array Value) (hx : a.eval x = .agg c) (n : Nat) (hn : os.length = n)
    (h : ∀ W', Blocks w W' (os ++ [(c, ty)]) → wpList P ops Q rest (a.put op.dst (.pointer (some ⟨w.heap.size + n, 0, none⟩))) W') : wpList P ops Q (op :: rest) a W := by
  subst hn
  refine wpList_value hgd (v := .pointer (some ⟨w.heap.size + os.length, 0, none⟩)) (W' := W.alloc (.cells c ty (0, 0))) ?_ (h _ (hb.alloc c ty))
  unfold execOp
  simp only [ho, hx]
  rw [← hb.size]
  simp [Instr.box, newVar, newRow, Value.cells]

/-- 'alloc' of a row. -/
theorem step_alloc (hb : Blocks w W os) (hgd : Region.wanted op (yielded ops a.tmps) = true) (ty : TypeId) (ho : op.op = .alloc ty) (c : Array Value) (hz : ∀ W, (zeroValue ty).run P W = .ok (.agg c) W) (n : Nat) (hn : os.length = n)
    (h : ∀ W', Blocks w W' (os ++ [(c, ty)]) → wpList P ops Q rest (a.put op.dst (.pointer (some ⟨w.heap.size + n, 0, none⟩))) W') : wpList P ops Q (op :: rest) a W := by
  subst hn
  refine wpList_value hgd (v := .pointer (some ⟨w.heap.size + os.length, 0, none⟩)) (W' := W.alloc (.cells c ty (0, 0))) ?_ (h _ (hb.alloc c ty))
  unfold execOp
  simp only [ho]
  rw [← hb.size]
  simp [Instr.alloc, hz, newVar, newRow, Value.cells]

/-- 'make' of a slice. -/
theorem step_make (hb : Blocks w W os) (hgd : Region.wanted op (yielded ops a.tmps) = true) (t : TypeId) (x : Operand) (ho : op.op = .makeSlice t x x) (e : TypeId) (z : Array Value) (sz by_ : Nat) (ht : P.underlying t = some (.slice e))
    (hi : (P.info? e).map (fun i => (i.zero, i.size, i.bytes)) = some (some (.agg z), sz, by_))
    (k : IntKind) (l : Int) (hx : a.eval x = .int k l) (h0 : 0 ≤ l) (hbytes : (by_ : Int) * l ≤ 281474976710656) (h63 : l ≤ 9223372036854775807) (n : Nat) (hn : os.length = n)
    (h : ∀ W', Blocks w W' (os ++ [(madeCells z (l.toNat * sz), e)]) → wpList P ops Q rest (a.put op.dst (.slice (some ⟨w.heap.size + n, 0, none⟩) l.toNat l.toNat)) W') : wpList P ops Q (op :: rest) a W := by
  subst hn
  cases hq : P.info? e with
  | none => simp [hq] at hi
  | some i =>
    simp [hq] at hi
    obtain ⟨hz, rfl, rfl⟩ := hi
    refine wpList_value hgd (v := .slice (some ⟨w.heap.size + os.length, 0, none⟩) l.toNat l.toNat) (W' := W.alloc (.cells (madeCells z (l.toNat * i.size)) e (0, 0))) ?_ (h _ (hb.alloc _ _))
    unfold execOp
    simp only [ho, hx]
    rw [← hb.size]
    simp [run_make W t e i _ ht hq hz k k l l h0 (Int.le_refl _) hbytes h63, Value.cells]

/-- 'load' of a row out of a block. -/
theorem step_load (hb : Blocks w W os) (hgd : Region.wanted op (yielded ops a.tmps) = true) (ty : TypeId) (x : Operand) (ho : op.op = .load ty x) (b o i : Nat) (hbi : b = w.heap.size + i) (hx : a.eval x = .pointer (some ⟨b, o, none⟩))
    (c : Array Value) (t : TypeId) (hi : os[i]? = some (c, t)) (cs : Array Value) (hcs : c.extract o (o + cs.size) = cs) (d : TypeDesc) (hu : P.underlying ty = some d) (hd : d.isRow = true) (hs : (P.info? ty).map (·.size) = some cs.size)
    (h : wpList P ops Q rest (a.put op.dst (.agg cs)) W) : wpList P ops Q (op :: rest) a W := by
  subst hbi
  have hr : W.rangeAt (w.heap.size + i) o cs.toList := by
    have := World.rangeAt_of_block (hb.new i c t hi) o cs.size
    rwa [hcs] at this
  refine wpList_value hgd (v := .agg cs) ?_ h
  unfold execOp
  simp only [ho, hx, Sem.run_bind, run_loadAt_mid W (w.heap.size + i) o ty cs.toList d hr hu hd (by simpa using hs), Result.andThen_ok, Sem.run_pure, Array.toArray_toList]

/-- 'store' of a row into a block. -/
theorem step_store (hb : Blocks w W os) (hgd : Region.wanted op (yielded ops a.tmps) = true) (ty : TypeId) (x y : Operand) (ho : op.op = .store ty x y) (b o i : Nat) (hbi : b = w.heap.size + i) (hx : a.eval x = .pointer (some ⟨b, o, none⟩))
    (cs : Array Value) (hy : a.eval y = .agg cs) (c : Array Value) (t : TypeId) (hi : os[i]? = some (c, t)) (hfit : o + cs.size ≤ c.size) (hs : (P.info? ty).map (·.size) = some cs.size) (h1 : ∀ v ∈ cs.toList, v.oneCell' = true)
    (os' : List (Array Value × TypeId)) (hos : os.set i (splice c o cs.toList, t) = os')
    (h : ∀ W', Blocks w W' os' → wpList P ops Q rest (a.put op.dst undef) W') : wpList P ops Q (op :: rest) a W := by
  subst hbi hos
  refine wpList_skip hgd (W' := W.setRow (w.heap.size + i) (splice c o cs.toList)) ?_ (h _ (hb.setRow i c _ t hi))
  unfold execOp
  simp only [ho, hx, hy]
  have hst := run_storeCells_at P (w.heap.size + i) o t cs.toList 0 c W (hb.new i c t hi) (by simpa using hfit) h1
  cases hq : P.info? ty with
  | none => simp [hq] at hs
  | some inf =>
    have hz : cs.size = inf.size := by simp [hq] at hs; omega
    simp only [Nat.add_zero] at hst
    simp only [Instr.storeAt, Instr.sureAddr, storeVar, sizeOf, typeInfo, run_program, hq, Value.cells, hz, Sem.run_bind, Sem.run_pure, Result.andThen_ok, splice, ne_eq, not_true_eq_false, if_false, hst]

/-- 'build' of a struct. -/
theorem step_build (hgd : Region.wanted op (yielded ops a.tmps) = true) (t : TypeId) (parts : Array (Nat × Operand)) (ho : op.op = .build t parts) (vals : List (Nat × Value)) (hv : parts.toList.map (fun x => (x.1, a.eval x.2)) = vals) (cells : Array Value) (hf : P.built t vals = some cells)
    (h : wpList P ops Q rest (a.put op.dst (.agg cells)) W) : wpList P ops Q (op :: rest) a W := by
  refine wpList_value hgd (v := .agg cells) ?_ h
  unfold execOp
  have hf' : P.built t (parts.map fun (x : Nat × Operand) => (x.1, a.eval x.2)).toList = some cells := by rw [Array.toList_map, hv]; exact hf
  simp only [ho, Sem.run_bind, run_build W t _ cells hf', Result.andThen_ok, Sem.run_pure]

end
end Go.Proofs.Ybulkrvo
